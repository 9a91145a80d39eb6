/- Joined by pack.py: NextM, NextS, NextR, NextL. -/
import Derived.Test.YtpfgmiocdgfniaaGreatFmtP04
import Derived.Test.YtpfgmiocdgfniaaGreatFmtP02
import Derived.Test.YtpfgmiocdgfniaaGreatFmtP03
import Derived.Stop.FmtQuoteTie
import Derived.Deep.DeepCutAuto
import Derived.BigQuiet
set_option linter.unusedVariables false
set_option maxHeartbeats 8000000
set_option maxRecDepth 1000000
namespace Go.Proofs.YtpfgmiocdgfniaaGreatFmt
open Go.RowKit Go.Extern
def bytesOf (b : ByteArray) : List UInt8 := b.data.toList
theorem bytesOf_eq (b : ByteArray) : bytesOf b = b.data.toList := rfl
def en (r : Nat) : List UInt8 := bytesOf (Utf8.encode (r : Int))
theorem en_def (r : Nat) : en r = bytesOf (Utf8.encode (r : Int)) := rfl
structure Md where
  ext : Bool
  fil : Bool
  ngs : Bool
  dot : Bool
structure Res where
  err : Nat
  st : Nat
  i : Nat
  out : List UInt8
structure Br where
  c : Nat
  i : Nat
  bs : List UInt8
  sl : Bool
  de : Bool
  ce : Bool
def adv (s : ByteArray) (t : Br) : Br := { t with c := (nx s t.i).1, i := (nx s t.i).2 }
def brEsc (fil : Bool) (t : Br) (c i : Nat) : Br :=
  if c = 45 then { t with bs := t.bs ++ [92, 45], i := i }
  else if 128 < c then { t with bs := t.bs ++ en c, i := i }
  else { t with bs := t.bs ++ rq (en c), i := i, sl := t.sl || (fil && c == 47) }
def brDash (s : ByteArray) (t : Br) : Br :=
  { t with bs := t.bs ++ [45], de := t.de || ((nx s t.i).1 != 93 && decide ((nx s t.i).1 < lastR s t.i)) }
def brOpen (fil : Bool) (s : ByteArray) (t : Br) : Br :=
  { t with bs := t.bs ++ 91 :: (s.extract t.i (t.i + (cc (s.extract t.i s.size).data.toList).1)).data.toList, i := t.i + (cc (s.extract t.i s.size).data.toList).1,
           ce := t.ce || (cc (s.extract t.i s.size).data.toList).2, de := t.de || (cc (s.extract t.i s.size).data.toList).2,
           sl := t.sl || (fil && (idx (s.extract t.i (t.i + (cc (s.extract t.i s.size).data.toList).1)).data.toList [47]).isSome) }
def brDef (fil : Bool) (t : Br) : Br := { t with bs := t.bs ++ en t.c, sl := t.sl || (fil && t.c == 47) }
def litB (lit : Nat) : Res := ⟨0, 0, lit, [92, 91]⟩
def brL (fil : Bool) (s : ByteArray) (lit : Nat) : Nat → Br → Res
  | 0, _ => litB lit
  | f + 1, t =>
    if t.c = 0 then (if t.ce then ⟨3, 0, t.i, []⟩ else litB lit)
    else if t.c = 92 then
      (if (nx s t.i).1 = 0 then brL fil s lit f { t with c := 0, i := (nx s t.i).2 } else brL fil s lit f (adv s (brEsc fil t (nx s t.i).1 (nx s t.i).2)))
    else if t.c = 45 then brL fil s lit f (adv s (brDash s t))
    else if t.c = 93 then (if t.sl then ⟨0, 0, t.i, rq (s.extract (lit - 1) t.i).data.toList⟩ else if t.de then ⟨3, 0, t.i, []⟩ else ⟨0, 0, t.i, t.bs ++ [93]⟩)
    else if t.c = 91 then brL fil s lit f (adv s (brOpen fil s t))
    else brL fil s lit f (adv s (brDef fil t))
def need (s : ByteArray) (t : Br) : Nat := 2 * (s.size - t.i) + (if t.c = 0 then 0 else 1)
def br3 (fil : Bool) (s : ByteArray) (lit c i : Nat) (bs : List UInt8) : Res := brL fil s lit (need s ⟨c, i, bs, false, false, false⟩ + 1) ⟨c, i, bs, false, false, false⟩
def br2 (fil : Bool) (s : ByteArray) (lit c i : Nat) (bs : List UInt8) : Res :=
  if c = 93 then (if (nx s i).1 = 0 then litB lit else br3 fil s lit (nx s i).1 (nx s i).2 (bs ++ [93])) else br3 fil s lit c i bs
def br1 (fil : Bool) (s : ByteArray) (lit c i : Nat) : Res :=
  if c = 33 ∨ c = 94 then (if (nx s i).1 = 0 then litB lit else br2 fil s lit (nx s i).1 (nx s i).2 [91, 94]) else br2 fil s lit c i [91]
def brk (fil : Bool) (s : ByteArray) (lit : Nat) : Res :=
  if (nx s lit).1 = 0 then litB lit else br1 fil s lit (nx s lit).1 (nx s lit).2
def dotstar : List UInt8 := [46, 42]
def stTail (md : Md) (sbef : Bool) : List UInt8 := if sbef && !md.dot then [40, 91, 94, 47, 46, 93, 91, 94, 47, 93, 42, 41, 63] else [91, 94, 47, 93, 42]
def stSlash (md : Md) : List UInt8 := if md.dot then dotstar else [40, 47, 124, 91, 94, 47, 46, 93, 91, 94, 47, 93, 42, 41, 42]
def star2 (md : Md) (s : ByteArray) (j : Nat) (sbef : Bool) : Res :=
  if !md.ngs && sbef && (j == s.size || (nx s j).1 == 47) then
    (if (nx s j).1 = 47 then ⟨0, 0, j + 1, 40 :: (stSlash md ++ [47, 41, 63])⟩ else ⟨0, 0, j, stSlash md⟩)
  else ⟨0, 0, j, stTail md sbef⟩
def star (md : Md) (s : ByteArray) (i : Nat) : Res :=
  if md.fil then
    (if (nx s i).1 = 42 then star2 md s (i + 1) (i == 1 || lastR s i == 47) else ⟨0, 0, i, stTail md (i == 1 || lastR s i == 47)⟩)
  else ⟨0, 0, i, dotstar⟩
def rest (md : Md) (s : ByteArray) (c i : Nat) : Res :=
  if c = 0 then ⟨1, 0, i, []⟩
  else if c = 42 then star md s i
  else if c = 63 then ⟨0, 0, i, if md.fil then [91, 94, 47, 93] else [46]⟩
  else if c = 92 then (if (nx s i).1 = 0 then ⟨3, 0, (nx s i).2, []⟩ else ⟨0, 0, (nx s i).2, rq (en (nx s i).1)⟩)
  else if c = 91 then brk md.fil s i
  else if 128 < c then ⟨0, 0, i, en c⟩ else ⟨0, 0, i, rq (en c)⟩
inductive Grp where
  | opened
  | err (r : Res)
  | closed (j : Nat) (acc : List UInt8)
def grp (nxt : Nat → Res) (s : ByteArray) : Nat → Nat → List UInt8 → Grp
  | 0, _, _ => .opened
  | f + 1, j, acc =>
    if (nx s j).1 = 41 then .closed j acc
    else if (nx s j).1 = 124 then grp nxt s f (nx s j).2 (acc ++ [124])
    else if (nx s j).1 = 0 then .opened
    else if (nxt j).err = 0 then grp nxt s f (nxt j).i (acc ++ (nxt j).out) else .err (nxt j)
def isOp (c : Nat) : Bool := c == 33 || c == 63 || c == 42 || c == 43 || c == 64
def closeG (s : ByteArray) (c st j : Nat) (acc : List UInt8) : Res :=
  if c = 33 then ⟨2, st, (nx s j).2, acc ++ [41]⟩ else if c = 64 then ⟨0, 0, (nx s j).2, acc ++ [41]⟩ else ⟨0, 0, (nx s j).2, acc ++ [41] ++ en c⟩
def next (md : Md) (s : ByteArray) : Nat → Nat → Res
  | 0, i => ⟨0, 0, i, []⟩
  | f + 1, i =>
    if md.ext && isOp (nx s i).1 && (nx s (nx s i).2).1 == 40 then
      (match grp (next md s f) s (s.size + 1) (nx s (nx s i).2).2 [40] with
       | .opened => rest md s (nx s i).1 (nx s i).2
       | .err r => { r with out := [] }
       | .closed j acc => closeG s (nx s i).1 ((nx s i).2 - 1) j acc)
    else rest md s (nx s i).1 (nx s i).2
theorem en_cells (r : Nat) : Lib.runeCells (r : Int) = Lib.byteCells (en r) := by
  have e := FmtText.encode_eq r
  unfold Lib.runeCells Lib.byteCells
  rw [← e, en_def, bytesOf_eq]
  generalize (Utf8.encode (r : Int)).data.toList = l
  simp [FmtText.nums]
theorem en_len (r : Nat) : 1 ≤ (en r).length ∧ (en r).length ≤ 4 := by
  have := Lib.runeCells_le (r : Int)
  rw [en_cells] at this
  simpa [Lib.byteCells] using this
theorem en_small (r : Nat) (h : r < 128) : en r = [UInt8.ofNat r] := by rw [en_def, bytesOf_eq, FmtText.enc1 r h]
theorem dec_bounds (s : ByteArray) (i : Nat) : 1 ≤ (Utf8.decode s i).2 ∧ (Utf8.decode s i).1 ≤ 1114111 ∧ ((Utf8.decode s i).1 < 128 → (Utf8.decode s i).2 = 1) ∧ (i < s.size → i + (Utf8.decode s i).2 ≤ s.size) := by
  unfold Utf8.decode
  dsimp only
  have hr : Utf8.runeError = 65533 := rfl
  split
  · rename_i h; refine ⟨by simp, ?_, ?_, ?_⟩ <;> dsimp only <;> omega
  split
  · rename_i h0 h
    simp only [Bool.and_eq_true, decide_eq_true_eq, beq_iff_eq] at h
    split
    · rename_i h2; refine ⟨by simp, ?_, ?_, ?_⟩ <;> dsimp only <;> omega
    · refine ⟨by simp, ?_, ?_, ?_⟩ <;> dsimp only <;> omega
  split
  · rename_i h0 h1 h
    simp only [Bool.and_eq_true, decide_eq_true_eq, beq_iff_eq] at h
    split
    · rename_i h2
      simp only [Bool.and_eq_true, decide_eq_true_eq, Utf8.valid, Bool.or_eq_true] at h2
      refine ⟨by simp, ?_, ?_, ?_⟩ <;> dsimp only <;> omega
    · refine ⟨by simp, ?_, ?_, ?_⟩ <;> dsimp only <;> omega
  split
  · rename_i h0 h1 h3 h
    simp only [Bool.and_eq_true, decide_eq_true_eq, beq_iff_eq] at h
    split
    · rename_i h2
      simp only [Bool.and_eq_true, decide_eq_true_eq, Utf8.valid, Bool.or_eq_true] at h2
      refine ⟨by simp, ?_, ?_, ?_⟩ <;> dsimp only <;> omega
    · refine ⟨by simp, ?_, ?_, ?_⟩ <;> dsimp only <;> omega
  · refine ⟨by simp, ?_, ?_, ?_⟩ <;> dsimp only <;> omega
theorem nx_adv (s : ByteArray) (i : Nat) (h : (nx s i).1 ≠ 0) : i < (nx s i).2 ∧ i < s.size := by
  have := dec_bounds s i
  unfold nx at h ⊢
  split
  · rename_i h1; simp only; omega
  · rename_i h1; rw [if_neg h1] at h; simp at h
theorem nx_le (s : ByteArray) (i : Nat) (h : i ≤ s.size) : i ≤ (nx s i).2 ∧ (nx s i).2 ≤ s.size ∧ (nx s i).1 ≤ 1114111 := by
  have := dec_bounds s i
  unfold nx
  split <;> simp only <;> omega
theorem nx_ascii (s : ByteArray) (i : Nat) (h : (nx s i).1 ≠ 0) (h1 : (nx s i).1 < 128) : (nx s i).2 = i + 1 := by
  have := dec_bounds s i
  unfold nx at h h1 ⊢
  split
  · rename_i h2; rw [if_pos h2] at h1; simp only at h1 ⊢; omega
  · rename_i h2; rw [if_neg h2] at h; simp at h
theorem nx_cases (s : ByteArray) (i : Nat) (h : i ≤ s.size) : (i = s.size ∧ nx s i = (0, i)) ∨ (i < s.size ∧ i < (nx s i).2 ∧ (nx s i).2 ≤ s.size) := by
  have := dec_bounds s i
  unfold nx
  split
  · right; simp only; omega
  · left; exact ⟨by omega, rfl⟩
end Go.Proofs.YtpfgmiocdgfniaaGreatFmt

namespace Go.Proofs.YtpfgmiocdgfniaaGreatFmt
open Go.RowKit Go.Extern.Stop Go.Stop Go.Extern
abbrev gE : Nat := 1
abbrev gU : Nat := 4
abbrev gA : Nat := 5
abbrev tPB : TypeId := 74
abbrev tPL : TypeId := 82
def GG (x : Nat) : Prop := gE < x ∧ gU < x ∧ gA < x
theorem GG.mono {x y : Nat} (h : GG x) (hxy : x ≤ y) : GG y := ⟨by have := h.1; omega, by have := h.2.1; omega, by have := h.2.2; omega⟩
structure Base (F : Interp) (ls b k3 k4 : Nat) (s : ByteArray) (eof : Value) (w : World) : Prop where
  T : Tabs w
  E : w.cell? ⟨gE, 0, none⟩ = some eof
  c3 : w.heap[k3]? = some (.cells #[.pointer (some ⟨b, 0, none⟩)] tPB (0, 0))
  c4 : w.heap[k4]? = some (.cells #[.pointer (some ⟨ls, 0, none⟩)] tPL (0, 0))
  F : F.answers w.tape
  gl : GG ls
  hs : s.size ≤ 4398046511104
structure St (F : Interp) (B b ls k3 k4 : Nat) (s : ByteArray) (eof : Value) (i : Nat) (acc : List UInt8) (w : World) : Prop where
  base : Base F ls b k3 k4 s eof w
  L : Lx ls s i w
  Bd : IsB B b (Lib.byteCells acc) w
  sz : B ≤ w.heap.size
  gB : GG B
  hi : i ≤ s.size
def XX (ls B b : Nat) (w : World) (k : Nat) : Prop := k = ls ∨ BX B b w k
theorem Kp.seq {X Y : Nat → Prop} {a b c : World} (h : Kp X a b) (k : Kp Y b c) (hXY : ∀ i, i < a.heap.size → ¬ X i → ¬ Y i) : Kp X a c :=
  ⟨k.os.trans h.os, k.tape.trans h.tape, k.output.trans h.output, Nat.le_trans h.size k.size, fun i hi hx => (k.block i (Nat.lt_of_lt_of_le hi h.size) (hXY i hi hx)).trans (h.block i hi hx)⟩
theorem row_back {X : Nat → Prop} {w0 w : World} (h : Kp X w0 w) {k : Nat} (hk : k < w0.heap.size) (hX : ¬ X k) (hr : ByteRow w k) : ByteRow w0 k := by
  obtain ⟨c, fz, e⟩ := hr
  exact ⟨c, fz, by rw [← h.block k hk hX]; exact e⟩
theorem Kp.XXwrite {ls B b : Nat} {w0 w w' : World} (h : Kp (XX ls B b w0) w0 w) (hf : Frame B b w w') : Kp (XX ls B b w0) w0 w' :=
  h.seq hf.kp fun i hi hx hy => hx (by
    rcases hy with rfl | ⟨hB, hr⟩
    · exact .inr (.inl rfl)
    · exact .inr (.inr ⟨hB, row_back h hi hx hr⟩))
theorem Kp.XXls {ls B b : Nat} {w0 w w' : World} (h : Kp (XX ls B b w0) w0 w) (k : Kp (· = ls) w w') : Kp (XX ls B b w0) w0 w' :=
  h.seq k fun i hi hx hy => hx (.inl hy)
theorem Kp.XXcall {ls B b : Nat} {w0 w w' : World} (h : Kp (XX ls B b w0) w0 w) (k : Kp (XX ls B b w) w w') : Kp (XX ls B b w0) w0 w' :=
  h.seq k fun i hi hx hy => hx (by
    rcases hy with rfl | rfl | ⟨hB, hr⟩
    · exact .inl rfl
    · exact .inr (.inl rfl)
    · exact .inr (.inr ⟨hB, row_back h hi hx hr⟩))
theorem Kp.next {X : Nat → Prop} {a w w' : World} (h : Kp X a w) (k : Below w.heap.size w w') : Kp X a w' := h.trans (.of_below k)
theorem Kp.lsls {ls : Nat} {a w w' : World} (h : Kp (· = ls) a w) (k : Kp (· = ls) w w') : Kp (· = ls) a w' := h.trans k
theorem Kp.sub {X : Nat → Prop} {B' g : Nat} {a w w' : World} (h : Kp X a w) (hf : Frame B' g w w') (hB : a.heap.size ≤ B') (hg : B' ≤ g) : Kp X a w' :=
  h.seq hf.kp fun i hi hx hy => (by rcases hy with rfl | ⟨hB2, _⟩ <;> omega)
theorem Kp.subcall {ls B' g : Nat} {a w w' : World} (h : Kp (· = ls) a w) (k : Kp (XX ls B' g w) w w') (hB : a.heap.size ≤ B') (hg : B' ≤ g) : Kp (· = ls) a w' :=
  h.seq k fun i hi hx hy => (by rcases hy with rfl | rfl | ⟨hB2, _⟩; exact hx rfl; omega; omega)
theorem heap_ne {w : World} {x y : Nat} {c d : Array Value} {t u : TypeId} {f g : Nat × Nat} (hx : w.heap[x]? = some (.cells c t f)) (hy : w.heap[y]? = some (.cells d u g)) (h : t ≠ u) : x ≠ y := by
  rintro rfl
  rw [hx] at hy
  simp only [Option.some.injEq, Obj.cells.injEq] at hy
  exact h hy.2.1
theorem Base.kept {F : Interp} {ls b k3 k4 : Nat} {s : ByteArray} {eof : Value} {w w' : World} {X : Nat → Prop} (h : Base F ls b k3 k4 s eof w) (k : Kp X w w')
    (hE : ¬ X gE) (hU : ¬ X gU) (hA : ¬ X gA) (h3 : ¬ X k3) (h4 : ¬ X k4) : Base F ls b k3 k4 s eof w' where
  T := ⟨fun c hc => k.cell hU (h.T.1 c hc), fun i hi => ⟨k.cell hA (h.T.2 i hi).1, k.cell hA (h.T.2 i hi).2⟩⟩
  E := k.cell hE h.E
  c3 := k.heap h3 h.c3
  c4 := k.heap h4 h.c4
  F := by rw [k.tape]; exact h.F
  gl := h.gl
  hs := h.hs
section
variable {F : Interp} {B b ls k3 k4 : Nat} {s : ByteArray} {eof : Value} {i : Nat} {acc : List UInt8} {w w' : World}
theorem Base.lex (h : Base F ls b k3 k4 s eof w) (hL : Lx ls s i w) (k : Kp (· = ls) w w') : Base F ls b k3 k4 s eof w' :=
  h.kept k (by have := h.gl.1; omega) (by have := h.gl.2.1; omega) (by have := h.gl.2.2; omega) (heap_ne h.c3 hL (by decide)) (heap_ne h.c4 hL (by decide))
theorem Base.below (h : Base F ls b k3 k4 s eof w) (k : Below w.heap.size w w') : Base F ls b k3 k4 s eof w' :=
  h.kept (X := fun _ => False) (.of_below k) id id id id id
theorem St.not_ls (h : St F B b ls k3 k4 s eof i acc w) : b ≠ ls := by
  obtain ⟨_, _, c, hb⟩ := h.Bd.block
  exact heap_ne hb h.L (by decide)
theorem IsB.lex {B b : Nat} {bs : List Value} (h : IsB B b bs w) (hL : Lx ls s i w) (k : Kp (· = ls) w w') : IsB B b bs w' := by
  obtain ⟨_, _, c, hb⟩ := h.block
  exact h.kept k (heap_ne hb hL (by decide)) (fun g _ hr e => not_row hL (by decide) (e ▸ hr))
theorem IsB.below {B b : Nat} {bs : List Value} (h : IsB B b bs w) (k : Below w.heap.size w w') : IsB B b bs w' :=
  h.kept (X := fun _ => False) (.of_below k) id (fun _ _ _ => id)
theorem St.lex {j : Nat} (h : St F B b ls k3 k4 s eof i acc w) (hL : Lx ls s j w') (hj : j ≤ s.size) (k : Kp (· = ls) w w') : St F B b ls k3 k4 s eof j acc w' :=
  ⟨h.base.lex h.L k, hL, h.Bd.lex h.L k, Nat.le_trans h.sz k.size, h.gB, hj⟩
theorem St.below (h : St F B b ls k3 k4 s eof i acc w) (k : Below w.heap.size w w') : St F B b ls k3 k4 s eof i acc w' :=
  ⟨h.base.below k, h.L.kept (X := fun _ => False) (.of_below k) id, h.Bd.below k, Nat.le_trans h.sz k.size, h.gB, h.hi⟩
theorem St.write {out : List UInt8} (h : St F B b ls k3 k4 s eof i acc w) (hB : IsB B b (Lib.byteCells acc ++ Lib.byteCells out) w') (hf : Frame B b w w') : St F B b ls k3 k4 s eof i (acc ++ out) w' := by
  obtain ⟨hBb, _, c, hb⟩ := h.Bd.block
  have hnx : ∀ x, x < B → ¬ BX B b w x := fun x hx hy => by rcases hy with rfl | ⟨h1, _⟩ <;> omega
  have hlx : ¬ BX B b w ls := fun hy => by
    rcases hy with e | ⟨_, h1⟩
    · exact h.not_ls e.symm
    · exact not_row h.L (by decide) h1
  refine ⟨h.base.kept hf.kp (hnx _ h.gB.1) (hnx _ h.gB.2.1) (hnx _ h.gB.2.2) ?_ ?_, h.L.kept hf.kp hlx, ?_, Nat.le_trans h.sz hf.kp.size, h.gB, h.hi⟩
  · rintro (e | ⟨_, h1⟩)
    · exact heap_ne h.base.c3 hb (by decide) e
    · exact not_row h.base.c3 (by decide) h1
  · rintro (e | ⟨_, h1⟩)
    · exact heap_ne h.base.c4 hb (by decide) e
    · exact not_row h.base.c4 (by decide) h1
  · have e : Lib.byteCells (acc ++ out) = Lib.byteCells acc ++ Lib.byteCells out := by simp [Lib.byteCells]
    rw [e]; exact hB
theorem St.cells (h : St F B b ls k3 k4 s eof i acc w) : w.cell? ⟨k3, 0, none⟩ = some (.pointer (some ⟨b, 0, none⟩)) ∧ w.cell? ⟨k4, 0, none⟩ = some (.pointer (some ⟨ls, 0, none⟩)) ∧ w.cell? ⟨ls, 1, none⟩ = some (.int .i64 i) ∧ w.cell? ⟨ls, 0, none⟩ = some (.string s) := by
  refine ⟨?_, ?_, ?_, ?_⟩
  · rw [Lib.cell_of_heap h.base.c3]; rfl
  · rw [Lib.cell_of_heap h.base.c4]; rfl
  · rw [Lib.cell_of_heap h.L]; rfl
  · rw [Lib.cell_of_heap h.L]; rfl
theorem Kp.setls {ls : Nat} {w : World} (v : Value) : Kp (· = ls) w (w.setCell ⟨ls, 1, none⟩ v) := Kp.setCell (X := (· = ls)) (p := ⟨ls, 1, none⟩) (Kp.refl _ w) (.inl rfl) v
theorem St.set {j : Nat} (h : St F B b ls k3 k4 s eof i acc w) (hj : j ≤ s.size) : St F B b ls k3 k4 s eof j acc (w.setCell ⟨ls, 1, none⟩ (.int .i64 j)) :=
  h.lex h.L.set hj (Kp.setls _)
end
def SynErr (w : World) (v : Value) : Prop := ∃ p m u, v = .iface 106 (.pointer (some ⟨p, 0, none⟩)) ∧ w.heap[p]? = some (.cells #[.string m, u] 108 (0, 0)) ∧
  (u = .nilIface ∨ ∃ k, u = .iface 154 (.pointer (some ⟨k, 0, none⟩)) ∧ k < w.heap.size)
def NegErr (w : World) (v : Value) (a e : Nat) : Prop := ∃ p q, v = .iface 53 (.pointer (some ⟨p, 0, none⟩)) ∧ w.heap[p]? = some (.cells #[.slice (some ⟨q, 0, none⟩) 1 1] 58 (0, 0)) ∧
  w.heap[q]? = some (.cells #[.int .i64 a, .int .i64 e] 60 (0, 0))
def ErrIs (eof : Value) (r : Res) (w : World) (v : Value) : Prop :=
  (r.err = 0 → v = .nilIface) ∧ (r.err = 1 → v = eof) ∧ (r.err = 2 → NegErr w v r.st r.i) ∧ (r.err = 3 → SynErr w v)
def NPost (B b ls : Nat) (s : ByteArray) (eof : Value) (acc : List UInt8) (w : World) (r : Res) (e : Ending) (w' : World) : Prop :=
  Lx ls s r.i w' ∧ IsB B b (Lib.byteCells (acc ++ r.out)) w' ∧ Kp (XX ls B b w) w w' ∧ ∃ v, e = .returned v ∧ ErrIs eof r w' v
end Go.Proofs.YtpfgmiocdgfniaaGreatFmt

namespace Go.Proofs.YtpfgmiocdgfniaaGreatFmt
open Go.RowKit Go.Extern.Stop Go.Stop Go.Extern
def sq1 : Code → Code | .seq a _ => a | c => c
def sq2 : Code → Code | .seq _ b => b | c => c
noncomputable def restC : Code := sq2 (sq2 (sq2 (Tryz.f23.body.getD .skip)))
structure Mo (m : Int) (md : Md) : Prop where
  ext1 : (bits BinOp.and IntKind.u64 m 64 != 0) = md.ext
  fil1 : (bits BinOp.and IntKind.u64 m 2 != 0) = md.fil
  fil0 : (bits BinOp.and IntKind.u64 m 2 == 0) = !md.fil
  ngs0 : (bits BinOp.and IntKind.u64 m 16 == 0) = !md.ngs
  dot0 : (bits BinOp.and IntKind.u64 m 32 == 0) = !md.dot
def RPost (B b ls : Nat) (s : ByteArray) (eof : Value) (acc : List UInt8) (w : World) (r : Res) (Post : Ending → World → Prop) : Prop :=
  ∀ v w', Lx ls s r.i w' → IsB B b (Lib.byteCells (acc ++ r.out)) w' → Kp (XX ls B b w) w w' → ErrIs eof r w' v → Post (.returned v) w'
theorem err0 (eof : Value) (i : Nat) (out : List UInt8) (w : World) : ErrIs eof ⟨0, 0, i, out⟩ w .nilIface := ⟨fun _ => rfl, fun h => (by cases h), fun h => (by cases h), fun h => (by cases h)⟩
theorem err1 (eof : Value) (i : Nat) (out : List UInt8) (w : World) : ErrIs eof ⟨1, 0, i, out⟩ w eof := ⟨fun h => (by cases h), fun _ => rfl, fun h => (by cases h), fun h => (by cases h)⟩
theorem err3 {eof : Value} {i : Nat} {out : List UInt8} {w : World} {v : Value} (h : SynErr w v) : ErrIs eof ⟨3, 0, i, out⟩ w v := ⟨fun h => (by cases h), fun h => (by cases h), fun h => (by cases h), fun _ => h⟩
theorem cells_str (s : ByteArray) : Lib.strCells s = Lib.byteCells s.data.toList := rfl
theorem RPost.use {B b ls : Nat} {s : ByteArray} {eof : Value} {acc : List UInt8} {w w' : World} {er st j : Nat} {out : List UInt8} {Post : Ending → World → Prop} {v : Value}
    (h : RPost B b ls s eof acc w ⟨er, st, j, out⟩ Post) (hL : Lx ls s j w') (hB : IsB B b (Lib.byteCells (acc ++ out)) w') (k : Kp (XX ls B b w) w w') (he : ErrIs eof ⟨er, st, j, out⟩ w' v) : Post (.returned v) w' := h _ _ hL hB k he
theorem alloc_at (w : World) (o : Obj) : (w.alloc o).heap[w.heap.size]? = some o := by show (w.heap.push o)[w.heap.size]? = some o; exact Array.getElem?_push_size
theorem rq_cells (c : Nat) : Lib.strCells ⟨(rq (Utf8.encode (c : Int)).data.toList).toArray⟩ = Lib.byteCells (rq (en c)) := by
  rw [en_def, bytesOf_eq, cells_str]
theorem rq_size (c : Nat) : (ByteArray.mk (rq (Utf8.encode (c : Int)).data.toList).toArray).size ≤ 8 := by
  have h := rq_len (Utf8.encode (c : Int)).data.toList
  have h2 := encode_size_le (c : Int)
  rw [← Pat.size_toList] at h2
  show (rq (Utf8.encode (c : Int)).data.toList).toArray.size ≤ 8
  rw [List.size_toArray]
  omega
theorem enc_size (c : Nat) : (Utf8.encode (c : Int)).size ≤ 35184372088832 := by
  have := encode_size_le (c : Int)
  omega
theorem rest_nul (F : Interp) (B b ls k3 k4 : Nat) (s : ByteArray) (eof : Value) (i : Nat) (acc : List UInt8) (m : Int) (md : Md) (w : World) (Post : Ending → World → Prop)
    (hst : St F B b ls k3 k4 s eof i acc w) (hm : Mo m md) (hlen : acc.length ≤ 100000000000000) (c : Nat) (hc : c = 0)
    (hP : RPost B b ls s eof acc w (rest md s c i) Post) (v0 v1 x5 x8 x9 x10 x11 x12 x13 x14 x15 x16 x17 x18 x19 x20 x21 x22 x23 x24 x25 x26 x27 x28 x29 x30 x31 x32 x33 x34 x35 x36 x37 x38 x39 x40 x41 x42 x43 x44 x45 x46 x47 x48 x49 x50 x51 x52 x53 x54 x55 x56 x57 x58 x59 x60 x61 x62 x63 x64 x65 x66 x67 x68 x69 x70 x71 x72 x73 x74 x75 x76 x77 x78 x79 x80 x81 x82 x83 x84 x85 x86 x87 x88 x89 x90 x91 x92 x93 x94 x95 x96 x97 x98 x99 x100 x101 x102 x103 x104 x105 x106 x107 x108 x109 x110 x111 x112 x113 x114 x115 x116 x117 x118 x119 x120 x121 x122 x123 x124 x125 x126 x127 x128 x129 x130 x131 x132 x133 x134 x135 x136 x137 x138 x139 x140 x141 x142 x143 x144 x145 x146 x147 x148 x149 x150 x151 x152 x153 x154 x155 x156 x157 x158 x159 x160 x161 x162 x163 x164 x165 x166 x167 x168 x169 x170 x171 x172 x173 x174 x175 x176 x177 x178 x179 x180 x181 x182 x183 x184 x185 x186 x187 x188 x189 x190 x191 x192 x193 x194 x195 x196 x197 x198 x199 x200 x201 x202 x203 x204 x205 x206 x207 x208 x209 x210 x211 x212 x213 x214 x215 x216 x217 x218 x219 x220 x221 x222 x223 x224 x225 x226 x227 x228 x229 x230 x231 x232 x233 x234 x235 x236 x237 x238 x239 x240 x241 x242 x243 x244 x245 x246 x247 x248 x249 x250 x251 x252 x253 x254 x255 x256 x257 x258 x259 x260 x261 x262 x263 x264 x265 x266 x267 x268 x269 x270 x271 x272 x273 x274 x275 x276 x277 x278 x279 x280 x281 x282 x283 x284 x285 x286 x287 x288 x289 x290 x291 x292 x293 x294 x295 x296 x297 x298 x299 x300 x301 x302 x303 x304 x305 x306 x307 x308 x309 x310 x311 x312 x313 x314 x315 x316 x317 x318 x319 x320 x321 x322 x323 x324 x325 x326 x327 x328 x329 x330 x331 x332 x333 x334 x335 x336 x337 x338 x339 x340 x341 x342 x343 x344 x345 x346 x347 x348 x349 x350 x351 x352 x353 x354 x355 x356 x357 x358 x359 x360 x361 x362 x363 x364 x365 x366 x367 x368 x369 x370 x371 x372 x373 x374 x375 x376 x377 x378 x379 x380 x381 x382 x383 x384 x385 x386 x387 x388 : Value) :
    Code.wp Tryz.prog restC (bodyPost Tryz.prog Tryz.f23 Post) ⟨#[v0, v1, .int .u64 m, .pointer (some ⟨k3, 0, none⟩), .pointer (some ⟨k4, 0, none⟩), x5, .nilIface, .int .i32 (c : Int), x8, x9, x10, x11, x12, x13, x14, x15, x16, x17, x18, x19, x20, x21, x22, x23, x24, x25, x26, x27, x28, x29, x30, x31, x32, x33, x34, x35, x36, x37, x38, x39, x40, x41, x42, x43, x44, x45, x46, x47, x48, x49, x50, x51, x52, x53, x54, x55, x56, x57, x58, x59, x60, x61, x62, x63, x64, x65, x66, x67, x68, x69, x70, x71, x72, x73, x74, x75, x76, x77, x78, x79, x80, x81, x82, x83, x84, x85, x86, x87, x88, x89, x90, x91, x92, x93, x94, x95, x96, x97, x98, x99, x100, x101, x102, x103, x104, x105, x106, x107, x108, x109, x110, x111, x112, x113, x114, x115, x116, x117, x118, x119, x120, x121, x122, x123, x124, x125, x126, x127, x128, x129, x130, x131, x132, x133, x134, x135, x136, x137, x138, x139, x140, x141, x142, x143, x144, x145, x146, x147, x148, x149, x150, x151, x152, x153, x154, x155, x156, x157, x158, x159, x160, x161, x162, x163, x164, x165, x166, x167, x168, x169, x170, x171, x172, x173, x174, x175, x176, x177, x178, x179, x180, x181, x182, x183, x184, x185, x186, x187, x188, x189, x190, x191, x192, x193, x194, x195, x196, x197, x198, x199, x200, x201, x202, x203, x204, x205, x206, x207, x208, x209, x210, x211, x212, x213, x214, x215, x216, x217, x218, x219, x220, x221, x222, x223, x224, x225, x226, x227, x228, x229, x230, x231, x232, x233, x234, x235, x236, x237, x238, x239, x240, x241, x242, x243, x244, x245, x246, x247, x248, x249, x250, x251, x252, x253, x254, x255, x256, x257, x258, x259, x260, x261, x262, x263, x264, x265, x266, x267, x268, x269, x270, x271, x272, x273, x274, x275, x276, x277, x278, x279, x280, x281, x282, x283, x284, x285, x286, x287, x288, x289, x290, x291, x292, x293, x294, x295, x296, x297, x298, x299, x300, x301, x302, x303, x304, x305, x306, x307, x308, x309, x310, x311, x312, x313, x314, x315, x316, x317, x318, x319, x320, x321, x322, x323, x324, x325, x326, x327, x328, x329, x330, x331, x332, x333, x334, x335, x336, x337, x338, x339, x340, x341, x342, x343, x344, x345, x346, x347, x348, x349, x350, x351, x352, x353, x354, x355, x356, x357, x358, x359, x360, x361, x362, x363, x364, x365, x366, x367, x368, x369, x370, x371, x372, x373, x374, x375, x376, x377, x378, x379, x380, x381, x382, x383, x384, x385, x386, x387, x388], []⟩ w := by
  subst hc
  have E := hst.base.E
  conv => arg 2; whnf
  go_wp2
  exact hP _ _ hst.L (by rw [show (rest md s 0 i).out = [] from rfl, List.append_nil]; exact hst.Bd) (Kp.refl _ _) (err1 _ _ _ _)
theorem rest_any (F : Interp) (B b ls k3 k4 : Nat) (s : ByteArray) (eof : Value) (i : Nat) (acc : List UInt8) (m : Int) (md : Md) (w : World) (Post : Ending → World → Prop)
    (hst : St F B b ls k3 k4 s eof i acc w) (hm : Mo m md) (hlen : acc.length ≤ 100000000000000) (c : Nat) (hc : c = 63)
    (hP : RPost B b ls s eof acc w (rest md s c i) Post) (v0 v1 x5 x8 x9 x10 x11 x12 x13 x14 x15 x16 x17 x18 x19 x20 x21 x22 x23 x24 x25 x26 x27 x28 x29 x30 x31 x32 x33 x34 x35 x36 x37 x38 x39 x40 x41 x42 x43 x44 x45 x46 x47 x48 x49 x50 x51 x52 x53 x54 x55 x56 x57 x58 x59 x60 x61 x62 x63 x64 x65 x66 x67 x68 x69 x70 x71 x72 x73 x74 x75 x76 x77 x78 x79 x80 x81 x82 x83 x84 x85 x86 x87 x88 x89 x90 x91 x92 x93 x94 x95 x96 x97 x98 x99 x100 x101 x102 x103 x104 x105 x106 x107 x108 x109 x110 x111 x112 x113 x114 x115 x116 x117 x118 x119 x120 x121 x122 x123 x124 x125 x126 x127 x128 x129 x130 x131 x132 x133 x134 x135 x136 x137 x138 x139 x140 x141 x142 x143 x144 x145 x146 x147 x148 x149 x150 x151 x152 x153 x154 x155 x156 x157 x158 x159 x160 x161 x162 x163 x164 x165 x166 x167 x168 x169 x170 x171 x172 x173 x174 x175 x176 x177 x178 x179 x180 x181 x182 x183 x184 x185 x186 x187 x188 x189 x190 x191 x192 x193 x194 x195 x196 x197 x198 x199 x200 x201 x202 x203 x204 x205 x206 x207 x208 x209 x210 x211 x212 x213 x214 x215 x216 x217 x218 x219 x220 x221 x222 x223 x224 x225 x226 x227 x228 x229 x230 x231 x232 x233 x234 x235 x236 x237 x238 x239 x240 x241 x242 x243 x244 x245 x246 x247 x248 x249 x250 x251 x252 x253 x254 x255 x256 x257 x258 x259 x260 x261 x262 x263 x264 x265 x266 x267 x268 x269 x270 x271 x272 x273 x274 x275 x276 x277 x278 x279 x280 x281 x282 x283 x284 x285 x286 x287 x288 x289 x290 x291 x292 x293 x294 x295 x296 x297 x298 x299 x300 x301 x302 x303 x304 x305 x306 x307 x308 x309 x310 x311 x312 x313 x314 x315 x316 x317 x318 x319 x320 x321 x322 x323 x324 x325 x326 x327 x328 x329 x330 x331 x332 x333 x334 x335 x336 x337 x338 x339 x340 x341 x342 x343 x344 x345 x346 x347 x348 x349 x350 x351 x352 x353 x354 x355 x356 x357 x358 x359 x360 x361 x362 x363 x364 x365 x366 x367 x368 x369 x370 x371 x372 x373 x374 x375 x376 x377 x378 x379 x380 x381 x382 x383 x384 x385 x386 x387 x388 : Value) :
    Code.wp Tryz.prog restC (bodyPost Tryz.prog Tryz.f23 Post) ⟨#[v0, v1, .int .u64 m, .pointer (some ⟨k3, 0, none⟩), .pointer (some ⟨k4, 0, none⟩), x5, .nilIface, .int .i32 (c : Int), x8, x9, x10, x11, x12, x13, x14, x15, x16, x17, x18, x19, x20, x21, x22, x23, x24, x25, x26, x27, x28, x29, x30, x31, x32, x33, x34, x35, x36, x37, x38, x39, x40, x41, x42, x43, x44, x45, x46, x47, x48, x49, x50, x51, x52, x53, x54, x55, x56, x57, x58, x59, x60, x61, x62, x63, x64, x65, x66, x67, x68, x69, x70, x71, x72, x73, x74, x75, x76, x77, x78, x79, x80, x81, x82, x83, x84, x85, x86, x87, x88, x89, x90, x91, x92, x93, x94, x95, x96, x97, x98, x99, x100, x101, x102, x103, x104, x105, x106, x107, x108, x109, x110, x111, x112, x113, x114, x115, x116, x117, x118, x119, x120, x121, x122, x123, x124, x125, x126, x127, x128, x129, x130, x131, x132, x133, x134, x135, x136, x137, x138, x139, x140, x141, x142, x143, x144, x145, x146, x147, x148, x149, x150, x151, x152, x153, x154, x155, x156, x157, x158, x159, x160, x161, x162, x163, x164, x165, x166, x167, x168, x169, x170, x171, x172, x173, x174, x175, x176, x177, x178, x179, x180, x181, x182, x183, x184, x185, x186, x187, x188, x189, x190, x191, x192, x193, x194, x195, x196, x197, x198, x199, x200, x201, x202, x203, x204, x205, x206, x207, x208, x209, x210, x211, x212, x213, x214, x215, x216, x217, x218, x219, x220, x221, x222, x223, x224, x225, x226, x227, x228, x229, x230, x231, x232, x233, x234, x235, x236, x237, x238, x239, x240, x241, x242, x243, x244, x245, x246, x247, x248, x249, x250, x251, x252, x253, x254, x255, x256, x257, x258, x259, x260, x261, x262, x263, x264, x265, x266, x267, x268, x269, x270, x271, x272, x273, x274, x275, x276, x277, x278, x279, x280, x281, x282, x283, x284, x285, x286, x287, x288, x289, x290, x291, x292, x293, x294, x295, x296, x297, x298, x299, x300, x301, x302, x303, x304, x305, x306, x307, x308, x309, x310, x311, x312, x313, x314, x315, x316, x317, x318, x319, x320, x321, x322, x323, x324, x325, x326, x327, x328, x329, x330, x331, x332, x333, x334, x335, x336, x337, x338, x339, x340, x341, x342, x343, x344, x345, x346, x347, x348, x349, x350, x351, x352, x353, x354, x355, x356, x357, x358, x359, x360, x361, x362, x363, x364, x365, x366, x367, x368, x369, x370, x371, x372, x373, x374, x375, x376, x377, x378, x379, x380, x381, x382, x383, x384, x385, x386, x387, x388], []⟩ w := by
  subst hc
  obtain ⟨e3, e4, e1, e0⟩ := hst.cells
  have hf := hm.fil1
  cases hmf : md.fil with
  | true =>
    rw [hmf] at hf
    have hr : rest md s 63 i = ⟨0, 0, i, [91, 94, 47, 93]⟩ := by simp [rest, hmf]
    rw [hr] at hP
    have HW := Lib.hid (writeString_any B b (Lib.byteCells acc) ⟨#[91, 94, 47, 93]⟩ w hst.Bd (by simp [Lib.byteCells, ByteArray.size]; omega) hst.sz)
    have HP := Lib.hid hP
    have HS := Lib.hid hst
    clear hP hr hst hm hmf
    conv => arg 2; whnf
    go_wp2_with fail
    refine HW.out.mono ?_
    rintro e w' ⟨rfl, hB, hfr⟩
    go_wp2_with fail
    have st' := HS.out.write (out := [91, 94, 47, 93]) hB hfr
    exact HP.out.use st'.L st'.Bd ((Kp.refl _ _).XXwrite hfr) (err0 _ _ _ _)
  | false =>
    rw [hmf] at hf
    have hr : rest md s 63 i = ⟨0, 0, i, [46]⟩ := by simp [rest, hmf]
    rw [hr] at hP
    have HW := Lib.hid (writeByte_any B b (Lib.byteCells acc) 46 w hst.Bd (by simp [Lib.byteCells]; omega) hst.sz)
    have HP := Lib.hid hP
    have HS := Lib.hid hst
    clear hP hr hst hm hmf
    conv => arg 2; whnf
    go_wp2_with fail
    refine HW.out.mono ?_
    rintro e w' ⟨rfl, hB, hfr⟩
    go_wp2_with fail
    have st' := HS.out.write (out := [46]) hB hfr
    exact HP.out.use st'.L st'.Bd ((Kp.refl _ _).XXwrite hfr) (err0 _ _ _ _)
theorem rest_def (F : Interp) (B b ls k3 k4 : Nat) (s : ByteArray) (eof : Value) (i : Nat) (acc : List UInt8) (m : Int) (md : Md) (w : World) (Post : Ending → World → Prop)
    (hst : St F B b ls k3 k4 s eof i acc w) (hm : Mo m md) (hlen : acc.length ≤ 100000000000000) (c : Nat) (h1c : c ≤ 1114111) (h0 : c ≠ 0) (h42 : c ≠ 42) (h63 : c ≠ 63) (h92 : c ≠ 92) (h91 : c ≠ 91)
    (hP : RPost B b ls s eof acc w (rest md s c i) Post) (v0 v1 x5 x8 x9 x10 x11 x12 x13 x14 x15 x16 x17 x18 x19 x20 x21 x22 x23 x24 x25 x26 x27 x28 x29 x30 x31 x32 x33 x34 x35 x36 x37 x38 x39 x40 x41 x42 x43 x44 x45 x46 x47 x48 x49 x50 x51 x52 x53 x54 x55 x56 x57 x58 x59 x60 x61 x62 x63 x64 x65 x66 x67 x68 x69 x70 x71 x72 x73 x74 x75 x76 x77 x78 x79 x80 x81 x82 x83 x84 x85 x86 x87 x88 x89 x90 x91 x92 x93 x94 x95 x96 x97 x98 x99 x100 x101 x102 x103 x104 x105 x106 x107 x108 x109 x110 x111 x112 x113 x114 x115 x116 x117 x118 x119 x120 x121 x122 x123 x124 x125 x126 x127 x128 x129 x130 x131 x132 x133 x134 x135 x136 x137 x138 x139 x140 x141 x142 x143 x144 x145 x146 x147 x148 x149 x150 x151 x152 x153 x154 x155 x156 x157 x158 x159 x160 x161 x162 x163 x164 x165 x166 x167 x168 x169 x170 x171 x172 x173 x174 x175 x176 x177 x178 x179 x180 x181 x182 x183 x184 x185 x186 x187 x188 x189 x190 x191 x192 x193 x194 x195 x196 x197 x198 x199 x200 x201 x202 x203 x204 x205 x206 x207 x208 x209 x210 x211 x212 x213 x214 x215 x216 x217 x218 x219 x220 x221 x222 x223 x224 x225 x226 x227 x228 x229 x230 x231 x232 x233 x234 x235 x236 x237 x238 x239 x240 x241 x242 x243 x244 x245 x246 x247 x248 x249 x250 x251 x252 x253 x254 x255 x256 x257 x258 x259 x260 x261 x262 x263 x264 x265 x266 x267 x268 x269 x270 x271 x272 x273 x274 x275 x276 x277 x278 x279 x280 x281 x282 x283 x284 x285 x286 x287 x288 x289 x290 x291 x292 x293 x294 x295 x296 x297 x298 x299 x300 x301 x302 x303 x304 x305 x306 x307 x308 x309 x310 x311 x312 x313 x314 x315 x316 x317 x318 x319 x320 x321 x322 x323 x324 x325 x326 x327 x328 x329 x330 x331 x332 x333 x334 x335 x336 x337 x338 x339 x340 x341 x342 x343 x344 x345 x346 x347 x348 x349 x350 x351 x352 x353 x354 x355 x356 x357 x358 x359 x360 x361 x362 x363 x364 x365 x366 x367 x368 x369 x370 x371 x372 x373 x374 x375 x376 x377 x378 x379 x380 x381 x382 x383 x384 x385 x386 x387 x388 : Value) :
    Code.wp Tryz.prog restC (bodyPost Tryz.prog Tryz.f23 Post) ⟨#[v0, v1, .int .u64 m, .pointer (some ⟨k3, 0, none⟩), .pointer (some ⟨k4, 0, none⟩), x5, .nilIface, .int .i32 (c : Int), x8, x9, x10, x11, x12, x13, x14, x15, x16, x17, x18, x19, x20, x21, x22, x23, x24, x25, x26, x27, x28, x29, x30, x31, x32, x33, x34, x35, x36, x37, x38, x39, x40, x41, x42, x43, x44, x45, x46, x47, x48, x49, x50, x51, x52, x53, x54, x55, x56, x57, x58, x59, x60, x61, x62, x63, x64, x65, x66, x67, x68, x69, x70, x71, x72, x73, x74, x75, x76, x77, x78, x79, x80, x81, x82, x83, x84, x85, x86, x87, x88, x89, x90, x91, x92, x93, x94, x95, x96, x97, x98, x99, x100, x101, x102, x103, x104, x105, x106, x107, x108, x109, x110, x111, x112, x113, x114, x115, x116, x117, x118, x119, x120, x121, x122, x123, x124, x125, x126, x127, x128, x129, x130, x131, x132, x133, x134, x135, x136, x137, x138, x139, x140, x141, x142, x143, x144, x145, x146, x147, x148, x149, x150, x151, x152, x153, x154, x155, x156, x157, x158, x159, x160, x161, x162, x163, x164, x165, x166, x167, x168, x169, x170, x171, x172, x173, x174, x175, x176, x177, x178, x179, x180, x181, x182, x183, x184, x185, x186, x187, x188, x189, x190, x191, x192, x193, x194, x195, x196, x197, x198, x199, x200, x201, x202, x203, x204, x205, x206, x207, x208, x209, x210, x211, x212, x213, x214, x215, x216, x217, x218, x219, x220, x221, x222, x223, x224, x225, x226, x227, x228, x229, x230, x231, x232, x233, x234, x235, x236, x237, x238, x239, x240, x241, x242, x243, x244, x245, x246, x247, x248, x249, x250, x251, x252, x253, x254, x255, x256, x257, x258, x259, x260, x261, x262, x263, x264, x265, x266, x267, x268, x269, x270, x271, x272, x273, x274, x275, x276, x277, x278, x279, x280, x281, x282, x283, x284, x285, x286, x287, x288, x289, x290, x291, x292, x293, x294, x295, x296, x297, x298, x299, x300, x301, x302, x303, x304, x305, x306, x307, x308, x309, x310, x311, x312, x313, x314, x315, x316, x317, x318, x319, x320, x321, x322, x323, x324, x325, x326, x327, x328, x329, x330, x331, x332, x333, x334, x335, x336, x337, x338, x339, x340, x341, x342, x343, x344, x345, x346, x347, x348, x349, x350, x351, x352, x353, x354, x355, x356, x357, x358, x359, x360, x361, x362, x363, x364, x365, x366, x367, x368, x369, x370, x371, x372, x373, x374, x375, x376, x377, x378, x379, x380, x381, x382, x383, x384, x385, x386, x387, x388], []⟩ w := by
  obtain ⟨e3, e4, e1, e0⟩ := hst.cells
  have b0 : ((c : Int) == 0) = false := by rw [beq_eq_false_iff_ne]; omega
  have b42 : ((c : Int) == 42) = false := by rw [beq_eq_false_iff_ne]; omega
  have b63 : ((c : Int) == 63) = false := by rw [beq_eq_false_iff_ne]; omega
  have b92 : ((c : Int) == 92) = false := by rw [beq_eq_false_iff_ne]; omega
  have b91 : ((c : Int) == 91) = false := by rw [beq_eq_false_iff_ne]; omega
  by_cases hg : 128 < c
  · have hr : rest md s c i = ⟨0, 0, i, en c⟩ := by simp [rest, h0, h42, h63, h92, h91, hg]
    rw [hr] at hP
    have HW := Lib.hid (writeRune_any B b (Lib.byteCells acc) c (by omega) (by omega) w hst.Bd (by simp [Lib.byteCells]; omega) hst.sz)
    have hgi : (128 : Int) < (c : Int) := by omega
    have HP := Lib.hid hP
    have HS := Lib.hid hst
    clear hP hr hst hm hg h0 h42 h63 h92 h91
    conv => arg 2; whnf
    go_wp2_with fail
    refine HW.out.mono ?_
    rintro e w' ⟨rfl, hB, hfr⟩
    go_wp2_with fail
    rw [en_cells] at hB
    have st' := HS.out.write (out := en c) hB hfr
    exact HP.out.use st'.L st'.Bd ((Kp.refl _ _).XXwrite hfr) (err0 _ _ _ _)
  · have hr : rest md s c i = ⟨0, 0, i, rq (en c)⟩ := by simp [rest, h0, h42, h63, h92, h91, hg]
    rw [hr] at hP
    have hgi : ¬ (128 : Int) < (c : Int) := by omega
    have HP := Lib.hid hP
    have HS := Lib.hid hst
    clear hP hr hst hm hg h0 h42 h63 h92 h91
    conv => arg 2; whnf
    go_wp2_with fail
    go_region_with (first | (go_at_call 42; refine (zzQuoteMeta_any _ _ (enc_size c)).mono ?_; rintro e w1 ⟨rfl, hb1⟩; have st1 := HS.out.below ((Below.refl _ _).drew.trans hb1); have e31 := st1.cells.1; have HS1 := Lib.hid st1; clear st1) | (go_at_call 22; refine (writeString_any B b (Lib.byteCells acc) _ _ HS1.out.Bd (by have := rq_size c; simp only [Lib.byteCells, List.length_map]; omega) HS1.out.sz).mono ?_; rintro e w' ⟨rfl, hB, hfr⟩))
    all_goals
      go_wp2_with fail
      rw [rq_cells] at hB
      have st' := HS1.out.write (out := rq (en c)) hB hfr
      exact HP.out.use st'.L st'.Bd (((Kp.refl _ _).next ((Below.refl _ _).drew.trans hb1)).XXwrite hfr) (err0 _ _ _ _)
end Go.Proofs.YtpfgmiocdgfniaaGreatFmt

namespace Go.Proofs.YtpfgmiocdgfniaaGreatFmt
open Go.RowKit Go.Extern.Stop Go.Stop Go.Extern
theorem litB_any (F : Interp) (B b ls k3 k4 kl : Nat) (s : ByteArray) (eof : Value) (i lit : Nat) (acc : List UInt8) (w : World) (hst : St F B b ls k3 k4 s eof i acc w) (hl : w.cell? ⟨kl, 0, none⟩ = some (.int .i64 lit)) (hls : lit ≤ s.size) (hlen : acc.length ≤ 100000000000000) :
    Calls Tryz.prog 43 #[.pointer (some ⟨kl, 0, none⟩), .pointer (some ⟨k4, 0, none⟩), .pointer (some ⟨k3, 0, none⟩)] w fun e w' => e = .returned .nilIface ∧ St F B b ls k3 k4 s eof lit (acc ++ [92, 91]) w' ∧ Kp (XX ls B b w) w w' := by
  obtain ⟨h3, h4, h1, h0⟩ := hst.cells
  have hfz := (cells_of hst.L).2.2.1
  have st1 := hst.set (j := lit) hls
  obtain ⟨q3, q4, q1, q0⟩ := st1.cells
  have HS := Lib.hid st1
  have HK : Hid (Kp (XX ls B b w) w (w.setCell ⟨ls, 1, none⟩ (.int .i64 lit))) := Lib.hid ((Kp.refl _ _).XXls (Kp.setls _))
  clear st1 hst
  go_enter Tryz.func43, Tryz.ntmps43
  go_wp2_with fail
  refine (writeString_any B b _ ⟨#[92, 91]⟩ _ HS.out.Bd (by simp [Lib.byteCells, ByteArray.size]; omega) HS.out.sz).mono ?_
  rintro e w' ⟨rfl, hB, hfr⟩
  have st2 := HS.out.write (out := [92, 91]) hB hfr
  have HS2 := Lib.hid st2
  have HK2 := Lib.hid (HK.out.XXwrite hfr)
  clear st2 hB hfr
  go_wp2_with fail
  go_ret
  exact ⟨rfl, HS2.out, HK2.out⟩
theorem SynErr.kept {w w' : World} {v : Value} {X : Nat → Prop} (h : SynErr w v) (k : Kp X w w') (hX : ∀ p c fz, w.heap[p]? = some (.cells c 108 fz) → ¬ X p) : SynErr w' v := by
  obtain ⟨p, m, u, rfl, hp, hu⟩ := h
  refine ⟨p, m, u, rfl, k.heap (hX p _ _ hp) hp, ?_⟩
  rcases hu with hu | ⟨q, hu, hq⟩
  · exact .inl hu
  · exact .inr ⟨q, hu, Nat.lt_of_lt_of_le hq k.size⟩
theorem SynErr.below {w w' : World} {v : Value} (h : SynErr w v) (k : Below w.heap.size w w') : SynErr w' v := h.kept (X := fun _ => False) (.of_below k) (fun _ _ _ _ => id)
theorem SynErr.lex {w w' : World} {v : Value} {ls : Nat} {s : ByteArray} {i : Nat} (h : SynErr w v) (hL : Lx ls s i w) (k : Kp (· = ls) w w') : SynErr w' v :=
  h.kept k (fun p c fz hp => heap_ne hp hL (by decide))
theorem SynErr.write {w w' : World} {v : Value} {B b : Nat} {bs : List Value} (h : SynErr w v) (hB : IsB B b bs w) (hf : Frame B b w w') : SynErr w' v := by
  obtain ⟨_, _, c, hb⟩ := hB.block
  exact h.kept hf.kp (fun p c' fz hp hx => by
    rcases hx with e | ⟨_, hr⟩
    · exact heap_ne hp hb (by decide) e
    · exact not_row hp (by decide) hr)
end Go.Proofs.YtpfgmiocdgfniaaGreatFmt
