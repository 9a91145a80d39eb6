/- Joined by pack.py: NextM, NextG, NextE. -/
import Derived.Test.YtonifkkdokaooaaFmtP18
import Derived.Test.YtonifkkdokaooaaFmtP19
import Derived.Test.YtonifkkdokaooaaFmtP20
import Derived.Stop.FmtQuoteTie
/- PLAIN: what regexpNext computes, as a Lean function (no program in sight but the lexer's decode). -/
namespace Go.Proofs.YtonifkkdokaooaaFmt
open Go.RowKit Go.Extern
set_option linter.unusedVariables false

/-- the bytes of a rune -/
def bytesOf (b : ByteArray) : List UInt8 := b.data.toList
theorem bytesOf_eq (b : ByteArray) : bytesOf b = b.data.toList := rfl
def en (r : Nat) : List UInt8 := bytesOf (Utf8.encode (r : Int))
theorem en_def (r : Nat) : en r = bytesOf (Utf8.encode (r : Int)) := rfl
/-- the mode's flags -/
structure Md where
  ext : Bool
  fil : Bool
  ngs : Bool
  dot : Bool
/-- err: 0 none, 1 EOF, 2 a group that is not to be matched (its start: st), 3 a fault of form; the place; what is written -/
structure Res where
  err : Nat
  st : Nat
  i : Nat
  out : List UInt8
structure Br where
  c : Nat
  i : Nat
  bs : List UInt8
  sl : Bool
  de : Bool
  ce : Bool

def adv (s : ByteArray) (t : Br) : Br := { t with c := (nx s t.i).1, i := (nx s t.i).2 }
def brEsc (fil : Bool) (t : Br) (c i : Nat) : Br :=
  if c = 45 then { t with bs := t.bs ++ [92, 45], i := i }
  else if 128 < c then { t with bs := t.bs ++ en c, i := i }
  else { t with bs := t.bs ++ rq (en c), i := i, sl := t.sl || (fil && c == 47) }
def brDash (s : ByteArray) (t : Br) : Br :=
  { t with bs := t.bs ++ [45], de := t.de || ((nx s t.i).1 != 93 && decide ((nx s t.i).1 < lastR s t.i)) }
def brOpen (fil : Bool) (s : ByteArray) (t : Br) : Br :=
  { t with bs := t.bs ++ 91 :: (s.extract t.i (t.i + (cc (s.extract t.i s.size).data.toList).1)).data.toList, i := t.i + (cc (s.extract t.i s.size).data.toList).1,
           ce := t.ce || (cc (s.extract t.i s.size).data.toList).2, de := t.de || (cc (s.extract t.i s.size).data.toList).2,
           sl := t.sl || (fil && (idx (s.extract t.i (t.i + (cc (s.extract t.i s.size).data.toList).1)).data.toList [47]).isSome) }
def brDef (fil : Bool) (t : Br) : Br := { t with bs := t.bs ++ en t.c, sl := t.sl || (fil && t.c == 47) }
def litB (lit : Nat) : Res := ⟨0, 0, lit, [92, 91]⟩

def brL (fil : Bool) (s : ByteArray) (lit : Nat) : Nat → Br → Res
  | 0, _ => litB lit
  | f + 1, t =>
    if t.c = 0 then (if t.ce then ⟨3, 0, t.i, []⟩ else litB lit)
    else if t.c = 92 then
      (if (nx s t.i).1 = 0 then brL fil s lit f { t with c := 0, i := (nx s t.i).2 } else brL fil s lit f (adv s (brEsc fil t (nx s t.i).1 (nx s t.i).2)))
    else if t.c = 45 then brL fil s lit f (adv s (brDash s t))
    else if t.c = 93 then (if t.sl then ⟨0, 0, t.i, rq (s.extract (lit - 1) t.i).data.toList⟩ else if t.de then ⟨3, 0, t.i, []⟩ else ⟨0, 0, t.i, t.bs ++ [93]⟩)
    else if t.c = 91 then brL fil s lit f (adv s (brOpen fil s t))
    else brL fil s lit f (adv s (brDef fil t))

def need (s : ByteArray) (t : Br) : Nat := 2 * (s.size - t.i) + (if t.c = 0 then 0 else 1)
def br3 (fil : Bool) (s : ByteArray) (lit c i : Nat) (bs : List UInt8) : Res := brL fil s lit (need s ⟨c, i, bs, false, false, false⟩ + 1) ⟨c, i, bs, false, false, false⟩
def br2 (fil : Bool) (s : ByteArray) (lit c i : Nat) (bs : List UInt8) : Res :=
  if c = 93 then (if (nx s i).1 = 0 then litB lit else br3 fil s lit (nx s i).1 (nx s i).2 (bs ++ [93])) else br3 fil s lit c i bs
def br1 (fil : Bool) (s : ByteArray) (lit c i : Nat) : Res :=
  if c = 33 ∨ c = 94 then (if (nx s i).1 = 0 then litB lit else br2 fil s lit (nx s i).1 (nx s i).2 [91, 94]) else br2 fil s lit c i [91]
def brk (fil : Bool) (s : ByteArray) (lit : Nat) : Res :=
  if (nx s lit).1 = 0 then litB lit else br1 fil s lit (nx s lit).1 (nx s lit).2

def dotstar : List UInt8 := [46, 42]
def stTail (md : Md) (sbef : Bool) : List UInt8 := if sbef && !md.dot then [40, 91, 94, 47, 46, 93, 91, 94, 47, 93, 42, 41, 63] else [91, 94, 47, 93, 42]
def stSlash (md : Md) : List UInt8 := if md.dot then dotstar else [40, 47, 124, 91, 94, 47, 46, 93, 91, 94, 47, 93, 42, 41, 42]
def star2 (md : Md) (s : ByteArray) (j : Nat) (sbef : Bool) : Res :=
  if !md.ngs && sbef && (j == s.size || (nx s j).1 == 47) then
    (if (nx s j).1 = 47 then ⟨0, 0, j + 1, 40 :: (stSlash md ++ [47, 41, 63])⟩ else ⟨0, 0, j, stSlash md⟩)
  else ⟨0, 0, j, stTail md sbef⟩
def star (md : Md) (s : ByteArray) (i : Nat) : Res :=
  if md.fil then
    (if (nx s i).1 = 42 then star2 md s (i + 1) (i == 1 || lastR s i == 47) else ⟨0, 0, i, stTail md (i == 1 || lastR s i == 47)⟩)
  else ⟨0, 0, i, dotstar⟩

def rest (md : Md) (s : ByteArray) (c i : Nat) : Res :=
  if c = 0 then ⟨1, 0, i, []⟩
  else if c = 42 then star md s i
  else if c = 63 then ⟨0, 0, i, if md.fil then [91, 94, 47, 93] else [46]⟩
  else if c = 92 then (if (nx s i).1 = 0 then ⟨3, 0, (nx s i).2, []⟩ else ⟨0, 0, (nx s i).2, rq (en (nx s i).1)⟩)
  else if c = 91 then brk md.fil s i
  else if 128 < c then ⟨0, 0, i, en c⟩ else ⟨0, 0, i, rq (en c)⟩

inductive Grp where
  | opened
  | err (r : Res)
  | closed (j : Nat) (acc : List UInt8)
def grp (nxt : Nat → Res) (s : ByteArray) : Nat → Nat → List UInt8 → Grp
  | 0, _, _ => .opened
  | f + 1, j, acc =>
    if (nx s j).1 = 41 then .closed j acc
    else if (nx s j).1 = 124 then grp nxt s f (nx s j).2 (acc ++ [124])
    else if (nx s j).1 = 0 then .opened
    else if (nxt j).err = 0 then grp nxt s f (nxt j).i (acc ++ (nxt j).out) else .err (nxt j)
def isOp (c : Nat) : Bool := c == 33 || c == 63 || c == 42 || c == 43 || c == 64
def closeG (s : ByteArray) (c st j : Nat) (acc : List UInt8) : Res :=
  if c = 33 then ⟨2, st, (nx s j).2, acc ++ [41]⟩ else if c = 64 then ⟨0, 0, (nx s j).2, acc ++ [41]⟩ else ⟨0, 0, (nx s j).2, acc ++ [41] ++ en c⟩
def next (md : Md) (s : ByteArray) : Nat → Nat → Res
  | 0, i => ⟨0, 0, i, []⟩
  | f + 1, i =>
    if md.ext && isOp (nx s i).1 && (nx s (nx s i).2).1 == 40 then
      (match grp (next md s f) s (s.size + 1) (nx s (nx s i).2).2 [40] with
       | .opened => rest md s (nx s i).1 (nx s i).2
       | .err r => { r with out := [] }
       | .closed j acc => closeG s (nx s i).1 ((nx s i).2 - 1) j acc)
    else rest md s (nx s i).1 (nx s i).2

theorem en_cells (r : Nat) : Lib.runeCells (r : Int) = Lib.byteCells (en r) := by
  have e := FmtText.encode_eq r
  unfold Lib.runeCells Lib.byteCells
  rw [← e, en_def, bytesOf_eq]
  generalize (Utf8.encode (r : Int)).data.toList = l
  simp [FmtText.nums]
theorem en_len (r : Nat) : 1 ≤ (en r).length ∧ (en r).length ≤ 4 := by
  have := Lib.runeCells_le (r : Int)
  rw [en_cells] at this
  simpa [Lib.byteCells] using this
theorem en_small (r : Nat) (h : r < 128) : en r = [UInt8.ofNat r] := by rw [en_def, bytesOf_eq, FmtText.enc1 r h]

theorem dec_bounds (s : ByteArray) (i : Nat) : 1 ≤ (Utf8.decode s i).2 ∧ (Utf8.decode s i).1 ≤ 1114111 ∧ ((Utf8.decode s i).1 < 128 → (Utf8.decode s i).2 = 1) ∧ (i < s.size → i + (Utf8.decode s i).2 ≤ s.size) := by
  unfold Utf8.decode
  dsimp only
  have hr : Utf8.runeError = 65533 := rfl
  split
  · rename_i h; refine ⟨by simp, ?_, ?_, ?_⟩ <;> dsimp only <;> omega
  split
  · rename_i h0 h
    simp only [Bool.and_eq_true, decide_eq_true_eq, beq_iff_eq] at h
    split
    · rename_i h2; refine ⟨by simp, ?_, ?_, ?_⟩ <;> dsimp only <;> omega
    · refine ⟨by simp, ?_, ?_, ?_⟩ <;> dsimp only <;> omega
  split
  · rename_i h0 h1 h
    simp only [Bool.and_eq_true, decide_eq_true_eq, beq_iff_eq] at h
    split
    · rename_i h2
      simp only [Bool.and_eq_true, decide_eq_true_eq, Utf8.valid, Bool.or_eq_true] at h2
      refine ⟨by simp, ?_, ?_, ?_⟩ <;> dsimp only <;> omega
    · refine ⟨by simp, ?_, ?_, ?_⟩ <;> dsimp only <;> omega
  split
  · rename_i h0 h1 h3 h
    simp only [Bool.and_eq_true, decide_eq_true_eq, beq_iff_eq] at h
    split
    · rename_i h2
      simp only [Bool.and_eq_true, decide_eq_true_eq, Utf8.valid, Bool.or_eq_true] at h2
      refine ⟨by simp, ?_, ?_, ?_⟩ <;> dsimp only <;> omega
    · refine ⟨by simp, ?_, ?_, ?_⟩ <;> dsimp only <;> omega
  · refine ⟨by simp, ?_, ?_, ?_⟩ <;> dsimp only <;> omega
theorem nx_adv (s : ByteArray) (i : Nat) (h : (nx s i).1 ≠ 0) : i < (nx s i).2 ∧ i < s.size := by
  have := dec_bounds s i
  unfold nx at h ⊢
  split
  · rename_i h1; simp only; omega
  · rename_i h1; rw [if_neg h1] at h; simp at h
theorem nx_le (s : ByteArray) (i : Nat) (h : i ≤ s.size) : i ≤ (nx s i).2 ∧ (nx s i).2 ≤ s.size ∧ (nx s i).1 ≤ 1114111 := by
  have := dec_bounds s i
  unfold nx
  split <;> simp only <;> omega
theorem nx_ascii (s : ByteArray) (i : Nat) (h : (nx s i).1 ≠ 0) (h1 : (nx s i).1 < 128) : (nx s i).2 = i + 1 := by
  have := dec_bounds s i
  unfold nx at h h1 ⊢
  split
  · rename_i h2; rw [if_pos h2] at h1; simp only at h1 ⊢; omega
  · rename_i h2; rw [if_neg h2] at h; simp at h
/-- the place goes on -/
theorem nx_cases (s : ByteArray) (i : Nat) (h : i ≤ s.size) : (i = s.size ∧ nx s i = (0, i)) ∨ (i < s.size ∧ i < (nx s i).2 ∧ (nx s i).2 ≤ s.size) := by
  have := dec_bounds s i
  unfold nx
  split
  · right; simp only; omega
  · left; exact ⟨by omega, rfl⟩
end Go.Proofs.YtonifkkdokaooaaFmt

/- PLAIN: what the model of regexpNext returns: the place goes on, and what is written is not long. -/
namespace Go.Proofs.YtonifkkdokaooaaFmt
open Go.RowKit Go.Extern
set_option linter.unusedVariables false

/-- out of place i: no end of the text; and, but for a fault of form, the place goes on -/
def Gd (s : ByteArray) (i : Nat) (r : Res) : Prop := r.err ≠ 1 ∧ (r.err ≠ 3 → i < r.i ∧ r.i ≤ s.size ∧ r.out.length ≤ 16 * (r.i - i))
theorem Gd.syn (s : ByteArray) (i j : Nat) (out : List UInt8) : Gd s i ⟨3, 0, j, out⟩ := ⟨by simp, fun h => absurd rfl h⟩
theorem Gd.ok {s : ByteArray} {i j : Nat} {out : List UInt8} (h1 : i < j) (h2 : j ≤ s.size) (h3 : out.length ≤ 16 * (j - i)) : Gd s i ⟨0, 0, j, out⟩ := ⟨by simp, fun _ => ⟨h1, h2, h3⟩⟩

theorem rq_en8 (c : Nat) : (rq (en c)).length ≤ 8 := by
  have h := rq_len (en c)
  have := en_len c
  omega
theorem cc_le2 (l : List UInt8) : (cc l).1 ≤ l.length := by
  unfold cc
  split
  · simp
  · rename_i c r
    split
    · split
      · simp
      · rename_i k hk
        have := idx_le _ _ _ hk
        simp only [List.length_cons, List.length_nil] at this ⊢
        omega
    · split
      · split
        · simp
        · rename_i k hk
          have := idx_le _ _ _ hk
          simp only [List.length_cons, List.length_nil] at this ⊢
          omega
      · simp
theorem brL_good (fil : Bool) (s : ByteArray) (lit : Nat) (hlit : 1 ≤ lit) (hls : lit ≤ s.size) : ∀ (f : Nat) (t : Br), lit ≤ t.i → t.i ≤ s.size → t.bs.length + 8 * lit ≤ 8 * t.i + 8 → (t.c ≠ 0 → t.bs.length + 8 * lit ≤ 8 * t.i) → Gd s (lit - 1) (brL fil s lit f t)
  | 0, t, _, _, _, _ => by
    refine Gd.ok (by omega) hls ?_
    simp only [List.length_cons, List.length_nil]; omega
  | f + 1, t, h1, h2, h3, h4 => by
    obtain ⟨hj0, hj1, hj2⟩ := nx_le s t.i h2
    unfold brL
    split
    · split
      · exact Gd.syn _ _ _ _
      · refine Gd.ok (by omega) hls ?_
        simp only [List.length_cons, List.length_nil]; omega
    rename_i hc0
    have h5 := h4 hc0
    split
    · split
      · refine brL_good fil s lit hlit hls f _ ?_ ?_ ?_ ?_ <;> simp only
        · omega
        · exact hj1
        · omega
        · exact fun h => absurd rfl h
      · rename_i hz
        obtain ⟨ha, _⟩ := nx_adv s t.i hz
        obtain ⟨hk0, hk1, hk2⟩ := nx_le s (nx s t.i).2 hj1
        have he : (brEsc fil t (nx s t.i).1 (nx s t.i).2).i = (nx s t.i).2 ∧ (brEsc fil t (nx s t.i).1 (nx s t.i).2).bs.length ≤ t.bs.length + 8 := by
          have := rq_en8 (nx s t.i).1
          have := en_len (nx s t.i).1
          unfold brEsc
          split
          · exact ⟨rfl, by simp⟩
          · split
            · exact ⟨rfl, by simp only [List.length_append]; omega⟩
            · exact ⟨rfl, by simp only [List.length_append]; omega⟩
        refine brL_good fil s lit hlit hls f _ ?_ ?_ ?_ ?_ <;> simp only [adv, he.1]
        · omega
        · exact hk1
        · omega
        · intro h; have := nx_adv s _ h; omega
    split
    · have he : (brDash s t).i = t.i ∧ (brDash s t).bs.length = t.bs.length + 1 := ⟨rfl, by simp [brDash]⟩
      refine brL_good fil s lit hlit hls f _ ?_ ?_ ?_ ?_ <;> simp only [adv, he.1]
      · omega
      · exact hj1
      · omega
      · intro h; have := nx_adv s _ h; omega
    split
    · split
      · refine Gd.ok (by omega) h2 ?_
        have := rq_len (s.extract (lit - 1) t.i).data.toList
        rw [Pat.size_toList, ByteArray.size_extract] at this
        omega
      · split
        · exact Gd.syn _ _ _ _
        · refine Gd.ok (by omega) h2 ?_
          simp only [List.length_append, List.length_cons, List.length_nil]; omega
    split
    · obtain ⟨n, er, hcc⟩ : ∃ n er, cc (s.extract t.i s.size).data.toList = (n, er) := ⟨_, _, rfl⟩
      have hnr : n ≤ s.size - t.i := by
        have := cc_le2 (s.extract t.i s.size).data.toList
        rw [hcc, Pat.size_toList, ByteArray.size_extract] at this; simp only at this; omega
      have he : (brOpen fil s t).i = t.i + n ∧ (brOpen fil s t).bs.length = t.bs.length + 1 + n := by
        unfold brOpen
        rw [hcc]
        refine ⟨rfl, ?_⟩
        simp only [List.length_append, List.length_cons, Pat.size_toList, ByteArray.size_extract]
        omega
      obtain ⟨hk0, hk1, hk2⟩ := nx_le s (t.i + n) (by omega)
      refine brL_good fil s lit hlit hls f _ ?_ ?_ ?_ ?_ <;> simp only [adv, he.1]
      · omega
      · exact hk1
      · omega
      · intro h; have := nx_adv s _ h; omega
    · have he : (brDef fil t).i = t.i ∧ (brDef fil t).bs.length ≤ t.bs.length + 4 := ⟨rfl, by have := en_len t.c; simp [brDef]; omega⟩
      refine brL_good fil s lit hlit hls f _ ?_ ?_ ?_ ?_ <;> simp only [adv, he.1]
      · omega
      · exact hj1
      · omega
      · intro h; have := nx_adv s _ h; omega

theorem brk_good (fil : Bool) (s : ByteArray) (lit : Nat) (hlit : 1 ≤ lit) (hls : lit ≤ s.size) : Gd s (lit - 1) (brk fil s lit) := by
  have hb : Gd s (lit - 1) (litB lit) := by
    refine Gd.ok (by omega) hls ?_
    simp only [List.length_cons, List.length_nil]; omega
  obtain ⟨a0, a1, a2⟩ := nx_le s lit hls
  have h3 : ∀ c i bs, lit < i → i ≤ s.size → bs.length + 8 * lit ≤ 8 * i → Gd s (lit - 1) (br3 fil s lit c i bs) := fun c i bs h1 h2 h3 =>
    brL_good fil s lit hlit hls _ _ (by simp only; omega) h2 (by simp only; omega) (fun _ => by simp only; omega)
  have h2 : ∀ c i bs, lit < i → i ≤ s.size → bs.length + 8 * lit ≤ 8 * i → Gd s (lit - 1) (br2 fil s lit c i bs) := by
    intro c i bs h1 hh h4
    obtain ⟨b0, b1, b2⟩ := nx_le s i hh
    unfold br2
    split
    · split
      · exact hb
      · rename_i hz
        have := nx_adv s i hz
        exact h3 _ _ _ (by omega) b1 (by simp only [List.length_append, List.length_cons, List.length_nil]; omega)
    · exact h3 _ _ _ h1 hh h4
  unfold brk
  split
  · exact hb
  · rename_i hz
    have := nx_adv s lit hz
    obtain ⟨b0, b1, b2⟩ := nx_le s (nx s lit).2 a1
    unfold br1
    split
    · split
      · exact hb
      · rename_i hz2
        have := nx_adv s _ hz2
        exact h2 _ _ _ (by omega) b1 (by simp only [List.length_cons, List.length_nil]; omega)
    · exact h2 _ _ _ (by omega) a1 (by simp only [List.length_cons, List.length_nil]; omega)

theorem star_good (md : Md) (s : ByteArray) (i : Nat) (hi : 1 ≤ i) (hs : i ≤ s.size) : Gd s (i - 1) (star md s i) := by
  have ht : ∀ sb, (stTail md sb).length ≤ 13 := by intro sb; unfold stTail; split <;> simp
  have hsl : (stSlash md).length ≤ 15 := by unfold stSlash; split <;> simp [dotstar]
  unfold star
  split
  · split
    · rename_i h42
      have h1 := nx_adv s i (by omega)
      unfold star2
      split
      · split
        · rename_i h47
          have h2 := nx_adv s (i + 1) (by omega)
          exact Gd.ok (by omega) (by omega) (by simp only [List.length_cons, List.length_append, List.length_nil]; omega)
        · exact Gd.ok (by omega) (by omega) (by omega)
      · exact Gd.ok (by omega) (by omega) (by have := ht (i == 1 || lastR s i == 47); omega)
    · exact Gd.ok (by omega) hs (by have := ht (i == 1 || lastR s i == 47); omega)
  · exact Gd.ok (by omega) hs (by simp only [dotstar, List.length_cons, List.length_nil]; omega)

theorem rest_good (md : Md) (s : ByteArray) (c i : Nat) (hi : 1 ≤ i) (hs : i ≤ s.size) (h0 : c ≠ 0) (j : Nat) (hj : j < i) : Gd s j (rest md s c i) := by
  have wk : ∀ r, Gd s (i - 1) r → Gd s j r := fun r h => ⟨h.1, fun h3 => by have := h.2 h3; omega⟩
  have hen := en_len c
  have hrq := rq_en8 c
  apply wk
  unfold rest
  rw [if_neg h0]
  split
  · exact star_good md s i hi hs
  split
  · refine Gd.ok (by omega) hs ?_
    split <;> simp only [List.length_cons, List.length_nil] <;> omega
  split
  · split
    · exact Gd.syn _ _ _ _
    · rename_i hz
      have h1 := nx_adv s i hz
      have := nx_le s i hs
      have := rq_en8 (nx s i).1
      exact Gd.ok (by omega) (by omega) (by omega)
  split
  · exact brk_good md.fil s i hi hs
  split
  · exact Gd.ok (by omega) hs (by omega)
  · exact Gd.ok (by omega) hs (by omega)

/-- what a group's reading gives -/
def GG2 (s : ByteArray) (i : Nat) : Grp → Prop
  | .opened => True
  | .err r => Gd s i r
  | .closed j acc => i < j ∧ j < s.size ∧ (nx s j).1 = 41 ∧ acc.length ≤ 16 * (j - i)
theorem grp_good (nxt : Nat → Res) (s : ByteArray) (i : Nat) (hn : ∀ j, i < j → j ≤ s.size → (nx s j).1 ≠ 0 → Gd s j (nxt j)) : ∀ (f j : Nat) (acc : List UInt8), i < j → j ≤ s.size → acc.length ≤ 16 * (j - i) → GG2 s i (grp nxt s f j acc)
  | 0, j, acc, _, _, _ => trivial
  | f + 1, j, acc, h1, h2, h3 => by
    unfold grp
    split
    · rename_i h
      have := nx_adv s j (by omega)
      exact ⟨h1, this.2, h, h3⟩
    split
    · rename_i h
      have := nx_adv s j (by omega)
      have := nx_le s j h2
      exact grp_good nxt s i hn f _ _ (by omega) (by omega) (by simp only [List.length_append, List.length_cons, List.length_nil]; omega)
    split
    · trivial
    rename_i hz
    have hg := hn j h1 h2 hz
    split
    · rename_i he
      have := hg.2 (by omega)
      exact grp_good nxt s i hn f _ _ (by omega) (by omega) (by simp only [List.length_append]; omega)
    · exact ⟨hg.1, fun h => by have := hg.2 h; omega⟩

theorem next_good (md : Md) (s : ByteArray) : ∀ (f i : Nat), i ≤ s.size → s.size < f + i → ((nx s i).1 = 0 → next md s f i = ⟨1, 0, (nx s i).2, []⟩) ∧ ((nx s i).1 ≠ 0 → Gd s i (next md s f i))
  | 0, i, h1, h2 => by omega
  | f + 1, i, h1, h2 => by
    refine ⟨fun h => ?_, fun h => ?_⟩
    · unfold next
      rw [h]
      simp [isOp, rest]
    · obtain ⟨a0, a1⟩ := nx_adv s i h
      obtain ⟨b0, b1, b2⟩ := nx_le s i h1
      have hr := rest_good md s (nx s i).1 (nx s i).2 (by omega) b1 h i a0
      unfold next
      split
      · rename_i hc
        simp only [Bool.and_eq_true, beq_iff_eq] at hc
        obtain ⟨⟨_, hop⟩, h40⟩ := hc
        have c0 := nx_adv s (nx s i).2 (by omega)
        have c1 := nx_le s (nx s i).2 b1
        have hg := grp_good (next md s f) s i (fun j hj hjs hz => (next_good md s f j hjs (by omega)).2 hz) (s.size + 1) (nx s (nx s i).2).2 [40] (by omega) (by omega) (by simp only [List.length_cons, List.length_nil]; omega)
        split
        · exact hr
        · rename_i r he
          rw [he] at hg
          exact ⟨hg.1, fun h => by have := hg.2 h; simp only [List.length_nil]; omega⟩
        · rename_i j acc he
          rw [he] at hg
          obtain ⟨g1, g2, g3, g4⟩ := hg
          have d := nx_ascii s j (by omega) (by omega)
          unfold closeG
          rw [d]
          have hen := en_len (nx s i).1
          split
          · exact ⟨by simp, fun _ => ⟨by simp only; omega, by simp only; omega, by simp only [List.length_append, List.length_cons, List.length_nil]; omega⟩⟩
          split
          · exact Gd.ok (by omega) (by omega) (by simp only [List.length_append, List.length_cons, List.length_nil]; omega)
          · exact Gd.ok (by omega) (by omega) (by simp only [List.length_append, List.length_cons, List.length_nil]; omega)
      · exact hr
end Go.Proofs.YtonifkkdokaooaaFmt

/- PLAIN: the kinds of errors. -/
namespace Go.Proofs.YtonifkkdokaooaaFmt
open Go.RowKit Go.Extern
set_option linter.unusedVariables false

theorem brL_err (fil : Bool) (s : ByteArray) (lit : Nat) : ∀ (f : Nat) (t : Br), (brL fil s lit f t).err ≤ 3
  | 0, t => by simp [brL, litB]
  | f + 1, t => by
    unfold brL
    have ih := brL_err fil s lit f
    split
    · split <;> simp [litB]
    split
    · split <;> exact ih _
    split
    · exact ih _
    split
    · split
      · simp
      · split <;> simp
    split
    · exact ih _
    · exact ih _
theorem rest_err (md : Md) (s : ByteArray) (c i : Nat) : (rest md s c i).err ≤ 3 := by
  have h3 : ∀ fil lit c i bs, (br3 fil s lit c i bs).err ≤ 3 := fun _ _ _ _ _ => brL_err _ _ _ _ _
  have hl : ∀ lit, (litB lit).err ≤ 3 := fun _ => by simp [litB]
  have h2 : ∀ fil lit c i bs, (br2 fil s lit c i bs).err ≤ 3 := by
    intro fil lit c i bs
    unfold br2
    split
    · split
      · exact hl _
      · exact h3 _ _ _ _ _
    · exact h3 _ _ _ _ _
  unfold rest
  split
  · simp
  split
  · unfold star
    split
    · split
      · unfold star2
        split
        · split <;> simp
        · simp
      · simp
    · simp
  split
  · simp
  split
  · split <;> simp
  split
  · unfold brk
    split
    · exact hl _
    · unfold br1
      split
      · split
        · exact hl _
        · exact h2 _ _ _ _ _
      · exact h2 _ _ _ _ _
  split <;> simp
theorem grp_err (nxt : Nat → Res) (s : ByteArray) (hn : ∀ j, (nxt j).err ≤ 3) : ∀ (f j : Nat) (acc : List UInt8) (r : Res), grp nxt s f j acc = .err r → r.err ≤ 3
  | 0, j, acc, r, h => by simp [grp] at h
  | f + 1, j, acc, r, h => by
    unfold grp at h
    split at h
    · cases h
    split at h
    · exact grp_err nxt s hn f _ _ r h
    split at h
    · cases h
    split at h
    · exact grp_err nxt s hn f _ _ r h
    · cases h; exact hn j
theorem next_err (md : Md) (s : ByteArray) : ∀ (f i : Nat), (next md s f i).err ≤ 3
  | 0, i => by simp [next]
  | f + 1, i => by
    unfold next
    split
    · split
      · exact rest_err _ _ _ _
      · rename_i r he
        exact grp_err _ s (next_err md s f) _ _ _ r he
      · unfold closeG
        split
        · simp
        · split <;> simp
    · exact rest_err _ _ _ _
end Go.Proofs.YtonifkkdokaooaaFmt
