/- Joined by pack.py: Kp, PlainA, ReP, ReG, ReS. -/
import Derived.Test.YtonifkkdokaooaaFmtChecked
import Derived.WalkKit
import Derived.BigCall
import Derived.Outline
import Derived.Lib.Hide
/- Frames: old blocks outside a set of blocks are kept. -/
namespace Go.Proofs.YtonifkkdokaooaaFmt
open Go.RowKit
set_option linter.unusedVariables false

/-- every old block outside X stands as it stood -/
structure Kp (X : Nat → Prop) (w w' : World) : Prop where
  os : w'.os = w.os
  tape : w'.tape = w.tape
  output : w'.output = w.output
  size : w.heap.size ≤ w'.heap.size
  block : ∀ k, k < w.heap.size → ¬ X k → w'.heap[k]? = w.heap[k]?

theorem Kp.refl (X : Nat → Prop) (w : World) : Kp X w w := ⟨rfl, rfl, rfl, Nat.le_refl _, fun _ _ _ => rfl⟩
theorem Kp.trans {X : Nat → Prop} {a b c : World} (h : Kp X a b) (k : Kp X b c) : Kp X a c :=
  ⟨k.os.trans h.os, k.tape.trans h.tape, k.output.trans h.output, Nat.le_trans h.size k.size, fun i hi hx => (k.block i (Nat.lt_of_lt_of_le hi h.size) hx).trans (h.block i hi hx)⟩
theorem Kp.mono {X Y : Nat → Prop} {a b : World} (h : Kp X a b) (hXY : ∀ k, k < a.heap.size → X k → Y k) : Kp Y a b :=
  ⟨h.os, h.tape, h.output, h.size, fun i hi hx => h.block i hi (fun hX => hx (hXY i hi hX))⟩
theorem Kp.of_below {X : Nat → Prop} {w w' : World} (h : Below w.heap.size w w') : Kp X w w' := ⟨h.os, h.tape, h.output, h.size, fun k hk _ => h.block k hk⟩
theorem Kp.below {X : Nat → Prop} {w w' : World} {B : Nat} (h : Kp X w w') (hB : B ≤ w.heap.size) (hX : ∀ k, k < B → ¬ X k) : Below B w w' :=
  ⟨h.os, h.tape, h.output, h.size, fun k hk => h.block k (by omega) (hX k hk)⟩
theorem Kp.alloc {X : Nat → Prop} {a w : World} (h : Kp X a w) (o : Obj) : Kp X a (w.alloc o) :=
  h.trans (.of_below ((Below.refl _ _).alloc (Nat.le_refl _) _))
theorem Kp.drew {X : Nat → Prop} {a w : World} (h : Kp X a w) : Kp X a w.drew := ⟨h.os, h.tape, h.output, h.size, h.block⟩
theorem Kp.setCell {X : Nat → Prop} {a w : World} (h : Kp X a w) {p : Addr} (hp : X p.block ∨ a.heap.size ≤ p.block) (u : Value) : Kp X a (w.setCell p u) :=
  ⟨h.os, h.tape, h.output, by have := h.size; simp [World.setCell]; omega, fun k hk hx => by
    rw [Below.heap_setCell _ _ _ _ (fun e => by subst e; rcases hp with hp | hp; exact hx hp; omega)]
    exact h.block k hk hx⟩
theorem Kp.cell {X : Nat → Prop} {w w' : World} (h : Kp X w w') {b o : Nat} {v : Value} (hX : ¬ X b) (hc : w.cell? ⟨b, o, none⟩ = some v) : w'.cell? ⟨b, o, none⟩ = some v := by
  have hlt : b < w.heap.size := World.block_lt_of_cell? _ _ hc
  have := h.block b hlt hX
  unfold World.cell? at hc ⊢
  rw [this]; exact hc
theorem Kp.heap {X : Nat → Prop} {w w' : World} (h : Kp X w w') {b : Nat} {o : Obj} (hX : ¬ X b) (hc : w.heap[b]? = some o) : w'.heap[b]? = some o := by
  have hlt : b < w.heap.size := (Array.getElem?_eq_some_iff.1 hc).1
  rw [h.block b hlt hX]; exact hc

end Go.Proofs.YtonifkkdokaooaaFmt

/- The plain functions of the texts that HasMeta, QuoteMeta and the reference compute, over lists of bytes. No program stands here. -/
namespace Go.Proofs.YtonifkkdokaooaaFmt.Pat

/-- a letter or a digit -/
def letterI (n : Int) : Bool := (decide (48 ≤ n) && decide (n ≤ 57)) || (decide (97 ≤ n) && decide (n ≤ 122)) || (decide (65 ≤ n) && decide (n ≤ 90))
/-- a letter, a digit or an underscore -/
def wordI (n : Int) : Bool := letterI n || n == 95
def wordL (l : List UInt8) : Bool := l.all fun c => wordI c.toNat
def asciiL (l : List UInt8) : Bool := l.all fun c => decide (c.toNat ≤ 127)

/-- HasMeta: the states are whether a bracket is open, and whether the byte stands behind a backslash -/
def metaE : Bool → Bool → List UInt8 → Bool
  | _, _, [] => false
  | o, true, _ :: r => metaE o false r
  | o, false, c :: r =>
    if c.toNat = 92 then metaE o true r
    else if c.toNat = 42 ∨ c.toNat = 63 then true
    else if c.toNat = 91 then metaE true false r
    else if c.toNat = 93 ∧ o = true then true
    else metaE o false r
def metaL (o : Bool) (l : List UInt8) : Bool := metaE o false l
theorem metaE_true (o : Bool) (r : List UInt8) : metaE o true r = metaE o false (r.drop 1) := by
  cases r <;> simp [metaE]

theorem meta_esc {c : UInt8} {o : Bool} {r : List UInt8} (h : ((c.toNat : Int) == 92) = true) : metaL o (c :: r) = metaL o (r.drop 1) := by
  have h : c.toNat = 92 := by have := beq_iff_eq.1 h; omega
  rw [metaL, metaE, if_pos h, metaE_true, metaL]
theorem ne_of {c : UInt8} {n : Nat} (h : ((c.toNat : Int) == (n : Int)) = false) : ¬ c.toNat = n := by
  have := beq_eq_false_iff_ne.1 h; omega
theorem eq_of {c : UInt8} {n : Nat} (h : ((c.toNat : Int) == (n : Int)) = true) : c.toNat = n := by
  have := beq_iff_eq.1 h; omega
theorem meta_star {c : UInt8} {o : Bool} {r : List UInt8} (h : ((c.toNat : Int) == 42) = true) : metaL o (c :: r) = true := by
  have h := eq_of (n := 42) h
  simp [metaL, metaE, h]
theorem meta_any {c : UInt8} {o : Bool} {r : List UInt8} (h : ((c.toNat : Int) == 63) = true) : metaL o (c :: r) = true := by
  have h := eq_of (n := 63) h
  simp [metaL, metaE, h]
theorem meta_open {c : UInt8} {o : Bool} {r : List UInt8} (h : ((c.toNat : Int) == 91) = true) : metaL o (c :: r) = metaL true r := by
  have h := eq_of (n := 91) h
  simp [metaL, metaE, h]
theorem meta_close {c : UInt8} {r : List UInt8} (h : ((c.toNat : Int) == 93) = true) : metaL true (c :: r) = true := by
  have h := eq_of (n := 93) h
  simp [metaL, metaE, h]
theorem meta_close0 {c : UInt8} {r : List UInt8} (h : ((c.toNat : Int) == 93) = true) : metaL false (c :: r) = metaL false r := by
  have h := eq_of (n := 93) h
  simp [metaL, metaE, h]
theorem meta_other {c : UInt8} {o : Bool} {r : List UInt8} (h1 : ((c.toNat : Int) == 92) = false) (h2 : ((c.toNat : Int) == 42) = false) (h3 : ((c.toNat : Int) == 63) = false)
    (h4 : ((c.toNat : Int) == 91) = false) (h5 : ((c.toNat : Int) == 93) = false) : metaL o (c :: r) = metaL o r := by
  have h1 := ne_of (n := 92) h1
  have h2 := ne_of (n := 42) h2
  have h3 := ne_of (n := 63) h3
  have h4 := ne_of (n := 91) h4
  have h5 := ne_of (n := 93) h5
  simp [metaL, metaE, h1, h2, h3, h4, h5]
theorem drop_cons (s : ByteArray) (k : Nat) (h : k < s.size) : s.data.toList.drop k = s[k] :: s.data.toList.drop (k + 1) := by
  rw [List.drop_eq_getElem_cons (by simpa using h)]; rfl
theorem drop_end (s : ByteArray) (k : Nat) (h : s.size ≤ k) : s.data.toList.drop k = [] := by
  rw [List.drop_eq_nil_iff]; simpa using h

theorem word_range {n : Nat} (h : wordI n = true) : (48 ≤ n ∧ n ≤ 57) ∨ (97 ≤ n ∧ n ≤ 122) ∨ (65 ≤ n ∧ n ≤ 90) ∨ n = 95 := by
  simp [wordI, letterI] at h; omega
theorem metaL_word (o : Bool) : ∀ (a r : List UInt8), wordL a = true → metaL o (a ++ r) = metaL o r
  | [], r, _ => rfl
  | c :: a, r, h => by
    have h' : wordI c.toNat = true ∧ wordL a = true := by simpa [wordL] using h
    have hc := word_range h'.1
    rw [← metaL_word o a r h'.2]
    have h1 : ¬ c.toNat = 92 := by omega
    have h2 : ¬ c.toNat = 42 := by omega
    have h3 : ¬ c.toNat = 63 := by omega
    have h4 : ¬ c.toNat = 91 := by omega
    have h5 : ¬ c.toNat = 93 := by omega
    simp [metaL, metaE, h1, h2, h3, h4, h5]
theorem metaL_word_nil (o : Bool) (a : List UInt8) (h : wordL a = true) : metaL o a = false := by
  have := metaL_word o a [] h
  simpa [metaL, metaE] using this
theorem meta_law_any (a b : List UInt8) (h : wordL a = true) : metaL false (a ++ [63] ++ b) = true := by
  rw [List.append_assoc, metaL_word _ _ _ h]; simp [metaL, metaE]
theorem meta_law_star (a b : List UInt8) (h : wordL a = true) : metaL false (a ++ [42] ++ b) = true := by
  rw [List.append_assoc, metaL_word _ _ _ h]; simp [metaL, metaE]
theorem meta_law_quoted (a b : List UInt8) (h : wordL a = true) (h2 : wordL b = true) : metaL false (a ++ [92, 42] ++ b) = false := by
  rw [List.append_assoc, metaL_word _ _ _ h]; have := metaL_word_nil false b h2; simpa [metaL, metaE] using this
theorem data_app (a b : ByteArray) : (a ++ b).data.toList = a.data.toList ++ b.data.toList := by
  simp [ByteArray.data_append]

/-- a byte that QuoteMeta quotes -/
def quotedB (c : UInt8) : Bool := c.toNat == 42 || c.toNat == 63 || c.toNat == 91 || c.toNat == 92
def quote1 (c : UInt8) : List UInt8 := if quotedB c then [92, c] else [c]
def quoteL (l : List UInt8) : List UInt8 := l.flatMap quote1
theorem quoteL_plain : ∀ l : List UInt8, (∀ c ∈ l, quotedB c = false) → quoteL l = l
  | [], _ => rfl
  | c :: r, h => by
    have h1 := h c (by simp)
    have h2 := quoteL_plain r (fun x hx => h x (by simp [hx]))
    simp only [quoteL] at h2
    simp [quoteL, quote1, h1, h2]
theorem quoteL_length : ∀ l : List UInt8, l.length ≤ (quoteL l).length ∧ (quoteL l).length ≤ 2 * l.length
  | [] => by simp [quoteL]
  | c :: r => by
    have h := quoteL_length r
    simp only [quoteL] at h
    simp only [quoteL, List.flatMap_cons, List.length_append, List.length_cons, quote1]
    split <;> simp only [List.length_cons, List.length_nil] <;> omega
theorem quoteL_append (a b : List UInt8) : quoteL (a ++ b) = quoteL a ++ quoteL b := by simp [quoteL]
theorem take_snoc (s : ByteArray) (k : Nat) (h : k < s.size) : s.data.toList.take (k + 1) = s.data.toList.take k ++ [s[k]] := by
  rw [List.take_succ_eq_append_getElem (by simpa using h)]; rfl
theorem take_all (s : ByteArray) (k : Nat) (h : s.size ≤ k) : s.data.toList.take k = s.data.toList := by
  rw [List.take_of_length_le]; simpa using h
theorem quote_snoc (l : List UInt8) (c : UInt8) : quoteL (l ++ [c]) = quoteL l ++ quote1 c := by simp [quoteL]
theorem bytes_eta (s : ByteArray) : (⟨s.data.toList.toArray⟩ : ByteArray) = s := by cases s; simp
theorem asciiL_at (s : ByteArray) (h : asciiL s.data.toList = true) (k : Nat) (hk : k < s.size) : (s[k]'hk).toNat < 128 := by
  have h1 : s[k] ∈ s.data.toList := by
    have : s[k] = s.data.toList[k]'(by simpa using hk) := by simp; rfl
    rw [this]; exact List.getElem_mem _
  have := List.all_eq_true.1 h _ h1
  simp at this; omega
theorem quoted_no {c : UInt8} (h1 : ((c.toNat : Int) == 42) = false) (h2 : ((c.toNat : Int) == 63) = false) (h3 : ((c.toNat : Int) == 91) = false) (h4 : ((c.toNat : Int) == 92) = false) : quotedB c = false := by
  have h1 := ne_of (n := 42) h1
  have h2 := ne_of (n := 63) h2
  have h3 := ne_of (n := 91) h3
  have h4 := ne_of (n := 92) h4
  simp [quotedB, h1, h2, h3, h4]
theorem quoted_42 {c : UInt8} (h : ((c.toNat : Int) == 42) = true) : quotedB c = true := by
  have h := eq_of (n := 42) h
  simp [quotedB, h]
theorem quoted_63 {c : UInt8} (h : ((c.toNat : Int) == 63) = true) : quotedB c = true := by
  have h := eq_of (n := 63) h
  simp [quotedB, h]
theorem quoted_91 {c : UInt8} (h : ((c.toNat : Int) == 91) = true) : quotedB c = true := by
  have h := eq_of (n := 91) h
  simp [quotedB, h]
theorem quoted_92 {c : UInt8} (h : ((c.toNat : Int) == 92) = true) : quotedB c = true := by
  have h := eq_of (n := 92) h
  simp [quotedB, h]
theorem quoted_cases (c : UInt8) : (((c.toNat : Int) == 42) = false ∧ ((c.toNat : Int) == 63) = false ∧ ((c.toNat : Int) == 91) = false ∧ ((c.toNat : Int) == 92) = false) ∨ (((c.toNat : Int) == 42) = true) ∨ (((c.toNat : Int) == 42) = false ∧ ((c.toNat : Int) == 63) = true) ∨ (((c.toNat : Int) == 42) = false ∧ ((c.toNat : Int) == 63) = false ∧ ((c.toNat : Int) == 91) = true) ∨ (((c.toNat : Int) == 42) = false ∧ ((c.toNat : Int) == 63) = false ∧ ((c.toNat : Int) == 91) = false ∧ ((c.toNat : Int) == 92) = true) := by
  cases ((c.toNat : Int) == 42) <;> cases ((c.toNat : Int) == 63) <;> cases ((c.toNat : Int) == 91) <;> cases ((c.toNat : Int) == 92) <;> simp
/-- Unquoted: the state is whether the byte stands behind a backslash -/
def unqE : Bool → List UInt8 → Option (List UInt8)
  | false, [] => some []
  | true, [] => none
  | true, d :: r => (unqE false r).map (d :: ·)
  | false, c :: r =>
    if c.toNat = 42 ∨ c.toNat = 63 ∨ c.toNat = 91 then none
    else if c.toNat = 92 then unqE true r
    else (unqE false r).map (c :: ·)
def unqT (l : List UInt8) : List UInt8 := (unqE false l).getD []
def unqB (l : List UInt8) : Bool := (unqE false l).isSome
theorem unq_bad {c : UInt8} {r : List UInt8} (h : c.toNat = 42 ∨ c.toNat = 63 ∨ c.toNat = 91) : unqE false (c :: r) = none := by simp [unqE, h]
theorem unq_bad42 {c : UInt8} {r : List UInt8} (h : ((c.toNat : Int) == 42) = true) : unqE false (c :: r) = none := unq_bad (.inl (eq_of (n := 42) h))
theorem unq_bad63 {c : UInt8} {r : List UInt8} (h : ((c.toNat : Int) == 63) = true) : unqE false (c :: r) = none := unq_bad (.inr (.inl (eq_of (n := 63) h)))
theorem unq_bad91 {c : UInt8} {r : List UInt8} (h : ((c.toNat : Int) == 91) = true) : unqE false (c :: r) = none := unq_bad (.inr (.inr (eq_of (n := 91) h)))
theorem unq_esc {c d : UInt8} {r : List UInt8} (h : ((c.toNat : Int) == 92) = true) : unqE false (c :: d :: r) = (unqE false r).map (d :: ·) := by
  have h := eq_of (n := 92) h
  simp [unqE, h]
theorem unq_esc_end {c : UInt8} (h : ((c.toNat : Int) == 92) = true) : unqE false [c] = none := by
  have h := eq_of (n := 92) h
  simp [unqE, h]
theorem unq_other {c : UInt8} {r : List UInt8} (h1 : ((c.toNat : Int) == 42) = false) (h2 : ((c.toNat : Int) == 63) = false) (h3 : ((c.toNat : Int) == 91) = false) (h4 : ((c.toNat : Int) == 92) = false) : unqE false (c :: r) = (unqE false r).map (c :: ·) := by
  have h1 := ne_of (n := 42) h1
  have h2 := ne_of (n := 63) h2
  have h3 := ne_of (n := 91) h3
  have h4 := ne_of (n := 92) h4
  simp [unqE, h1, h2, h3, h4]
theorem map_step (o : Option (List UInt8)) (a : List UInt8) (c : UInt8) : (o.map (c :: ·)).map (a ++ ·) = o.map ((a ++ [c]) ++ ·) := by
  cases o <;> simp
theorem extract_one (s : ByteArray) (k : Nat) (h : k < s.size) : (s.extract k (k + 1)).data.toList = [s[k]] := by
  have h' : k < s.data.size := h
  rw [ByteArray.data_extract, Array.toList_extract, List.extract_eq_take_drop]
  rw [show k + 1 - k = 1 from by omega, List.drop_eq_getElem_cons (by simpa using h')]
  simp; rfl
theorem extract_one_size (s : ByteArray) (k : Nat) (h : k < s.size) : (s.extract k (k + 1)).size = 1 := by
  rw [ByteArray.size_extract]; omega
theorem unq_quote : ∀ l : List UInt8, unqE false (quoteL l) = some l
  | [] => rfl
  | c :: r => by
    have h := unq_quote r
    simp only [quoteL] at h
    rcases quoted_cases c with ⟨k1, k2, k3, k4⟩ | k1 | ⟨k1, k2⟩ | ⟨k1, k2, k3⟩ | ⟨k1, k2, k3, k4⟩
    · simp only [quoteL, List.flatMap_cons, quote1, quoted_no k1 k2 k3 k4]
      simp [unq_other k1 k2 k3 k4, h]
    · simp only [quoteL, List.flatMap_cons, quote1, quoted_42 k1]
      simp [unqE, h]
    · simp only [quoteL, List.flatMap_cons, quote1, quoted_63 k2]
      simp [unqE, h]
    · simp only [quoteL, List.flatMap_cons, quote1, quoted_91 k3]
      simp [unqE, h]
    · simp only [quoteL, List.flatMap_cons, quote1, quoted_92 k4]
      simp [unqE, h]
theorem meta_quote : ∀ l : List UInt8, metaL false (quoteL l) = false
  | [] => rfl
  | c :: r => by
    have h := meta_quote r
    simp only [quoteL, metaL] at h
    rcases quoted_cases c with ⟨k1, k2, k3, k4⟩ | k1 | ⟨k1, k2⟩ | ⟨k1, k2, k3⟩ | ⟨k1, k2, k3, k4⟩
    · have h1 := ne_of (n := 42) k1
      have h2 := ne_of (n := 63) k2
      have h3 := ne_of (n := 91) k3
      have h4 := ne_of (n := 92) k4
      simp only [quoteL, List.flatMap_cons, quote1, quoted_no k1 k2 k3 k4]
      simp [metaL, metaE, h1, h2, h3, h4, h]
    · simp only [quoteL, List.flatMap_cons, quote1, quoted_42 k1]
      simp [metaL, metaE, h]
    · simp only [quoteL, List.flatMap_cons, quote1, quoted_63 k2]
      simp [metaL, metaE, h]
    · simp only [quoteL, List.flatMap_cons, quote1, quoted_91 k3]
      simp [metaL, metaE, h]
    · simp only [quoteL, List.flatMap_cons, quote1, quoted_92 k4]
      simp [metaL, metaE, h]
theorem ascii_quote : ∀ l : List UInt8, asciiL l = true → asciiL (quoteL l) = true
  | [], _ => rfl
  | c :: r, h => by
    have h' : c.toNat ≤ 127 ∧ asciiL r = true := by simpa [asciiL] using h
    have h2 := ascii_quote r h'.2
    simp only [quoteL, asciiL] at h2
    simp only [quoteL, List.flatMap_cons, asciiL, List.all_append, h2, quote1]
    split <;> simp [h'.1]
theorem word_not_quoted {c : UInt8} (h : wordI c.toNat = true) : quotedB c = false := by
  have := word_range h
  simp [quotedB]; omega
theorem word_quote (l : List UInt8) (h : wordL l = true) : quoteL l = l :=
  quoteL_plain l fun c hc => word_not_quoted (List.all_eq_true.1 h c hc)
theorem word_ascii (l : List UInt8) (h : wordL l = true) : asciiL l = true :=
  List.all_eq_true.2 fun c hc => by
    have := word_range (n := c.toNat) (List.all_eq_true.1 h c hc)
    simp; omega
theorem size_mk (l : List UInt8) : (ByteArray.mk l.toArray).size = l.length := by simp [ByteArray.size]
theorem data_mk (l : List UInt8) : (ByteArray.mk l.toArray).data.toList = l := by simp
theorem size_toList (s : ByteArray) : s.data.toList.length = s.size := by rw [Array.length_toList]; rfl
theorem mk_app (a b : List UInt8) : (ByteArray.mk (a ++ b).toArray) = ByteArray.mk a.toArray ++ ByteArray.mk b.toArray := by
  apply ByteArray.ext; simp [ByteArray.data_append]
theorem size_mid (a b : ByteArray) (l : Array UInt8) (h : a.size ≤ 2147483647) (h2 : b.size ≤ 2147483647) (h3 : l.size ≤ 2) : (a ++ ⟨l⟩ ++ b).size < 9223372036854775806 := by
  have h4 : (ByteArray.mk l).size ≤ 2 := h3
  simp only [ByteArray.size_append]
  omega
end Go.Proofs.YtonifkkdokaooaaFmt.Pat

/- PLAIN: the trees that the laws' own reader of regular expressions makes, and up to where they match. No program stands here. -/
namespace Go.Proofs.YtonifkkdokaooaaFmt.Re
set_option linter.unusedVariables false

/-- nodes one behind the other: kind, set, kids, least, most; and the nodes behind -/
inductive Fo where
  | nil
  | cons (k : Nat) (set : List Bool) (kids : Fo) (l m : Int) (rest : Fo)
def Fo.len : Fo → Nat
  | .nil => 0
  | .cons _ _ _ _ _ r => r.len + 1
def Fo.app : Fo → Fo → Fo
  | .nil, b => b
  | .cons k s d l m r, b => .cons k s d l m (r.app b)
theorem Fo.app_nil : ∀ a : Fo, a.app .nil = a
  | .nil => rfl
  | .cons k s d l m r => by rw [Fo.app, Fo.app_nil r]
theorem Fo.app_assoc : ∀ a b c : Fo, (a.app b).app c = a.app (b.app c)
  | .nil, b, c => rfl
  | .cons k s d l m r, b, c => by simp only [Fo.app, Fo.app_assoc r b c]
theorem Fo.len_app : ∀ a b : Fo, (a.app b).len = a.len + b.len
  | .nil, b => by simp [Fo.app, Fo.len]
  | .cons k s d l m r, b => by simp only [Fo.app, Fo.len, Fo.len_app r b]; omega

/-- up to where: the places of either; a set; any number of times -/
def bOr (a b : List Bool) : List Bool := List.zipWith (· || ·) a b
def setE (s : List UInt8) (set x : List Bool) : List Bool := false :: List.zipWith (fun (c : UInt8) (p : Bool) => p && (decide (c.toNat < 128) && set.getD c.toNat false)) s x
def falses (n : Nat) : List Bool := List.replicate n false
def begE (n : Nat) (x : List Bool) : List Bool := x.getD 0 false :: falses n
def finE (n : Nat) (x : List Bool) : List Bool := falses n ++ [x.getD n false]
/-- the loop of times: what is left to do is bounded by the places that are not yet there -/
def tmL (step : List Bool → List Bool) (m : Int) : Nat → Int → List Bool → List Bool → List Bool
  | 0, _, _, out => out
  | f + 1, k, now, out =>
    if m < 0 ∨ k < m then
      (if bOr out (step now) = out then out else tmL step m f (k + 1) (step now) (bOr out (step now)))
    else out
def iter (step : List Bool → List Bool) : Nat → List Bool → List Bool
  | 0, x => x
  | n + 1, x => iter step n (step x)
def timesE (step : List Bool → List Bool) (l m : Int) (n : Nat) (x : List Bool) : List Bool :=
  tmL step m (n + 2) l (iter step l.toNat x) (iter step l.toNat x)
/-- what a forest means: its nodes one behind the other; one of them (behind those that are there); its first node -/
structure Mean where
  seq : List Bool → List Bool
  alt : List Bool → List Bool → List Bool
  hd : List Bool → List Bool
def nodeE (s : List UInt8) (k : Nat) (set : List Bool) (M : Mean) (l m : Int) (x : List Bool) : List Bool :=
  if k = 1 then setE s set x
  else if k = 2 then M.seq x
  else if k = 3 then M.alt (falses (s.length + 1)) x
  else if k = 4 then timesE M.hd l m s.length x
  else if k = 5 then begE s.length x
  else if k = 6 then finE s.length x
  else falses (s.length + 1)
def mean (s : List UInt8) : Fo → Mean
  | .nil => ⟨id, fun acc _ => acc, id⟩
  | .cons k set kids l m rest =>
    ⟨fun x => (mean s rest).seq (nodeE s k set (mean s kids) l m x), fun acc x => (mean s rest).alt (bOr acc (nodeE s k set (mean s kids) l m x)) x, nodeE s k set (mean s kids) l m⟩
def trues (n : Nat) : List Bool := List.replicate n true
/-- Found -/
def foundE (s : List UInt8) (k : Nat) (set : List Bool) (kids : Fo) (l m : Int) : Bool := (nodeE s k set (mean s kids) l m (trues (s.length + 1))).any id

theorem bOr_length (a b : List Bool) (h : b.length = a.length) : (bOr a b).length = a.length := by simp [bOr, h]
theorem setE_length (s : List UInt8) (set x : List Bool) (h : x.length = s.length + 1) : (setE s set x).length = s.length + 1 := by simp [setE, h]
theorem falses_length (n : Nat) : (falses n).length = n := by simp [falses]
theorem iter_length (step : List Bool → List Bool) (N : Nat) (h : ∀ x, x.length = N → (step x).length = N) : ∀ n x, x.length = N → (iter step n x).length = N
  | 0, x, hx => hx
  | n + 1, x, hx => iter_length step N h n _ (h x hx)
theorem tmL_length (step : List Bool → List Bool) (m : Int) (N : Nat) (h : ∀ x, x.length = N → (step x).length = N) : ∀ f k now out, now.length = N → out.length = N → (tmL step m f k now out).length = N
  | 0, _, _, _, _, ho => ho
  | f + 1, k, now, out, hn, ho => by
    unfold tmL
    split
    · split
      · exact ho
      · exact tmL_length step m N h f _ _ _ (h now hn) (by rw [bOr_length _ _ (by rw [h now hn, ho])]; exact ho)
    · exact ho
/-- a forest whose times are of one node each -/
def Fo.fine : Fo → Prop
  | .nil => True
  | .cons k _ kids l m rest => (k = 4 → kids.len = 1 ∧ 0 ≤ l ∧ l ≤ 1) ∧ kids.fine ∧ rest.fine
theorem nodeE_length (s : List UInt8) (k : Nat) (set : List Bool) (M : Mean) (l m : Int)
    (h1 : ∀ x, x.length = s.length + 1 → (M.seq x).length = s.length + 1) (h2 : ∀ acc x, acc.length = s.length + 1 → x.length = s.length + 1 → (M.alt acc x).length = s.length + 1) (h3 : ∀ x, x.length = s.length + 1 → (M.hd x).length = s.length + 1)
    (x : List Bool) (hx : x.length = s.length + 1) : (nodeE s k set M l m x).length = s.length + 1 := by
  unfold nodeE
  split
  · exact setE_length s set x hx
  split
  · exact h1 x hx
  split
  · exact h2 _ x (falses_length _) hx
  split
  · exact tmL_length _ _ _ h3 _ _ _ _ (iter_length _ _ h3 _ _ hx) (iter_length _ _ h3 _ _ hx)
  split
  · simp [begE, falses]
  split
  · simp [finE, falses]
  · exact falses_length _
theorem mean_length (s : List UInt8) : ∀ F : Fo, (∀ x, x.length = s.length + 1 → ((mean s F).seq x).length = s.length + 1) ∧ (∀ acc x, acc.length = s.length + 1 → x.length = s.length + 1 → ((mean s F).alt acc x).length = s.length + 1) ∧ (∀ x, x.length = s.length + 1 → ((mean s F).hd x).length = s.length + 1)
  | .nil => ⟨fun x hx => hx, fun acc x h _ => h, fun x hx => hx⟩
  | .cons k set kids l m rest => by
    obtain ⟨a1, a2, a3⟩ := mean_length s kids
    obtain ⟨b1, b2, b3⟩ := mean_length s rest
    have hn := fun x hx => nodeE_length s k set (mean s kids) l m a1 a2 a3 x hx
    refine ⟨fun x hx => b1 _ (hn x hx), fun acc x h hx => b2 _ _ ?_ hx, hn⟩
    rw [bOr_length _ _ (by rw [hn x hx, h])]; exact h
/-- how many places are not there -/
def miss (x : List Bool) : Nat := (x.filter (! ·)).length
theorem miss_le (x : List Bool) : miss x ≤ x.length := List.length_filter_le _ _
theorem miss_or : ∀ (a b : List Bool), b.length = a.length → miss (bOr a b) ≤ miss a ∧ (bOr a b ≠ a → miss (bOr a b) < miss a)
  | [], [], _ => by simp [bOr, miss]
  | [], _ :: _, h => by simp at h
  | _ :: _, [], h => by simp at h
  | p :: a, q :: b, h => by
    have ih := miss_or a b (by simpa using h)
    cases p <;> cases q <;> simp [bOr, miss] at ih ⊢ <;> first | omega | (refine ⟨by omega, fun hh => ?_⟩; have := ih.2 hh; omega) | (exact ⟨ih.1, ih.2⟩) | skip
theorem seq_app (s : List UInt8) : ∀ (a b : Fo) (x : List Bool), (mean s (a.app b)).seq x = (mean s b).seq ((mean s a).seq x)
  | .nil, b, x => rfl
  | .cons k set kids l m rest, b, x => seq_app s rest b _
theorem alt_app (s : List UInt8) : ∀ (a b : Fo) (acc x : List Bool), (mean s (a.app b)).alt acc x = (mean s b).alt ((mean s a).alt acc x) x
  | .nil, b, acc, x => rfl
  | .cons k set kids l m rest, b, acc, x => alt_app s rest b _ x
end Go.Proofs.YtonifkkdokaooaaFmt.Re

/- PLAIN: the regular expressions that are written here, as data: their text, and the tree that a reader makes of it. No program stands here. -/
namespace Go.Proofs.YtonifkkdokaooaaFmt.Re
set_option linter.unusedVariables false

/-- what stands in brackets: a byte, a range, a class by its number -/
inductive CI where
  | ch (c : Nat)
  | rng (a b : Nat)
  | nm (k : Nat)
/-- one thing without kids: a byte as it is, a byte behind a backslash, any byte, the beginning, the end, brackets -/
inductive Ato where
  | lit (c : Nat)
  | esc (c : Nat)
  | dot
  | beg
  | fin
  | cls (neg : Bool) (is : List CI)
inductive Su where
  | one
  | star
  | plus
  | opt
/-- what stands in one pair of brackets, or in the whole text -/
inductive G where
  | done
  | bar (r : G)
  | ato (a : Ato) (q : Su) (r : G)
  | grp (i : G) (q : Su) (r : G)
  | flg (i u : Bool) (r : G)

def nmL : Nat → List Nat
  | 1 => [97, 108, 110, 117, 109]
  | 2 => [97, 108, 112, 104, 97]
  | 3 => [98, 108, 97, 110, 107]
  | 4 => [99, 110, 116, 114, 108]
  | 5 => [100, 105, 103, 105, 116]
  | 6 => [103, 114, 97, 112, 104]
  | 7 => [108, 111, 119, 101, 114]
  | 8 => [112, 114, 105, 110, 116]
  | 9 => [112, 117, 110, 99, 116]
  | 10 => [115, 112, 97, 99, 101]
  | 11 => [117, 112, 112, 101, 114]
  | 12 => [120, 100, 105, 103, 105, 116]
  | _ => []
def prI : CI → List Nat
  | .ch c => [c]
  | .rng a b => [a, 45, b]
  | .nm k => 91 :: 58 :: (nmL k ++ [58, 93])
def prIs : List CI → List Nat
  | [] => []
  | i :: r => prI i ++ prIs r
def prA : Ato → List Nat
  | .lit c => [c]
  | .esc c => [92, c]
  | .dot => [46]
  | .beg => [94]
  | .fin => [36]
  | .cls neg is => 91 :: ((if neg then [94] else []) ++ (prIs is ++ [93]))
def prS : Su → List Nat
  | .one => []
  | .star => [42]
  | .plus => [43]
  | .opt => [63]
def prF (i u : Bool) : List Nat := 40 :: 63 :: 115 :: ((if i then [105] else []) ++ ((if u then [85] else []) ++ [41]))
def pr : G → List Nat
  | .done => []
  | .bar r => 124 :: pr r
  | .ato a q r => prA a ++ (prS q ++ pr r)
  | .grp i q r => 40 :: (pr i ++ 41 :: (prS q ++ pr r))
  | .flg i u r => prF i u ++ pr r

def ltr (n : Nat) : Bool := (decide (48 ≤ n) && decide (n ≤ 57)) || (decide (97 ≤ n) && decide (n ≤ 122)) || (decide (65 ≤ n) && decide (n ≤ 90))
/-- a byte that may stand as it is -/
def litOk (c : Nat) : Bool := decide (c < 128) && !(c == 36 || c == 40 || c == 41 || c == 42 || c == 43 || c == 46 || c == 63 || c == 91 || c == 92 || c == 94 || c == 123 || c == 124)
def escOk (c : Nat) : Bool := decide (c < 128) && !ltr c
def chOk (c : Nat) : Bool := decide (c < 128) && !(c == 45 || c == 91 || c == 92 || c == 93 || c == 94)
def CI.ok : CI → Bool
  | .ch c => chOk c
  | .rng a b => chOk a && chOk b && decide (a ≤ b)
  | .nm k => decide (1 ≤ k) && decide (k ≤ 12)
def isOk : List CI → Bool
  | [] => true
  | i :: r => i.ok && isOk r
def Ato.ok : Ato → Bool
  | .lit c => litOk c
  | .esc c => escOk c
  | .cls _ is => isOk is && !is.isEmpty
  | _ => true
def G.ok : G → Bool
  | .done => true
  | .bar r => r.ok
  | .ato a _ r => a.ok && r.ok
  | .grp i _ r => i.ok && r.ok
  | .flg _ _ r => r.ok
/-- no sign of how often at the head -/
def hdOk : List Nat → Bool
  | [] => true
  | c :: _ => !(c == 42 || c == 43 || c == 63 || c == 123)

/-- sets -/
def oth (c : Nat) : Nat := if 97 ≤ c ∧ c ≤ 122 then c - 32 else if 65 ≤ c ∧ c ≤ 90 then c + 32 else c
def setL (p : Nat → Bool) (fold neg : Bool) : List Bool := (List.range 128).map fun c => (p c || (fold && p (oth c))) != neg
theorem setL_length (p : Nat → Bool) (fold neg : Bool) : (setL p fold neg).length = 128 := by simp [setL]
def clsR : Nat → List (Nat × Nat)
  | 1 => [(48, 57), (65, 90), (97, 122)]
  | 2 => [(65, 90), (97, 122)]
  | 3 => [(9, 9), (32, 32)]
  | 4 => [(0, 31), (127, 127)]
  | 5 => [(48, 57)]
  | 6 => [(33, 126)]
  | 7 => [(97, 122)]
  | 8 => [(32, 126)]
  | 9 => [(33, 47), (58, 64), (91, 96), (123, 126)]
  | 10 => [(9, 13), (32, 32)]
  | 11 => [(65, 90)]
  | 12 => [(48, 57), (65, 70), (97, 102)]
  | _ => []
def clsB (k c : Nat) : Bool := (clsR k).any fun r => decide (r.1 ≤ c) && decide (c ≤ r.2)
def CI.has : CI → Nat → Bool
  | .ch d, c => c == d
  | .rng a b, c => decide (a ≤ c) && decide (c ≤ b)
  | .nm k, c => clsB k c
def isHas (is : List CI) (c : Nat) : Bool := is.any (CI.has · c)

/-- trees -/
abbrev no128 : List Bool := falses 128
def ndA (fold dot : Bool) : Ato → Nat × List Bool
  | .lit c => (1, setL (fun x => x == c) fold false)
  | .esc c => (1, setL (fun x => x == c) fold false)
  | .dot => (1, setL (fun x => dot || x != 10) false false)
  | .beg => (5, no128)
  | .fin => (6, no128)
  | .cls neg is => (1, setL (isHas is) fold neg)
def sfx (q : Su) (k : Nat) (set : List Bool) (kids rest : Fo) : Fo :=
  match q with
  | .one => .cons k set kids 0 0 rest
  | .star => .cons 4 no128 (.cons k set kids 0 0 .nil) 0 (-1) rest
  | .plus => .cons 4 no128 (.cons k set kids 0 0 .nil) 1 (-1) rest
  | .opt => .cons 4 no128 (.cons k set kids 0 0 .nil) 0 1 rest
/-- the kids up to the next bar; the other lists -/
def ms : G → Bool → Bool → Fo × Fo
  | .done, _, _ => (.nil, .nil)
  | .bar r, fold, dot => (.nil, .cons 2 no128 (ms r fold dot).1 0 0 (ms r fold dot).2)
  | .ato a q r, fold, dot => (sfx q (ndA fold dot a).1 (ndA fold dot a).2 .nil (ms r fold dot).1, (ms r fold dot).2)
  | .grp i q r, fold, dot => (sfx q 3 no128 (.cons 2 no128 (ms i fold dot).1 0 0 (ms i fold dot).2) (ms r fold dot).1, (ms r fold dot).2)
  | .flg i u r, fold, dot => (.cons 2 no128 .nil 0 0 (ms r (fold || i) true).1, (ms r (fold || i) true).2)
def lists (g : G) (fold dot : Bool) : Fo := .cons 2 no128 (ms g fold dot).1 0 0 (ms g fold dot).2

theorem ndA_length (fold dot : Bool) (a : Ato) : (ndA fold dot a).2.length = 128 := by
  cases a <;> simp [ndA, setL, falses]
/-- what follows a thing has no sign of how often at its head -/
theorem hd_lit {c : Nat} (h : litOk c = true) (l : List Nat) : hdOk (c :: l) = true := by
  simp only [litOk, Bool.and_eq_true, Bool.not_eq_true', Bool.or_eq_false_iff] at h
  simp [hdOk, h.2]
theorem hd_pr : ∀ (g : G) (l : List Nat), g.ok = true → hdOk l = true → hdOk (pr g ++ l) = true
  | .done, l, _, h => h
  | .bar r, l, _, _ => rfl
  | .ato a q r, l, hg, _ => by
    simp only [G.ok, Bool.and_eq_true] at hg
    cases a with
    | lit c => exact hd_lit hg.1 _
    | _ => rfl
  | .grp i q r, l, _, _ => rfl
  | .flg i u r, l, _, _ => rfl
theorem sfx_app (q : Su) (k : Nat) (set : List Bool) (kids r b : Fo) : (sfx q k set kids r).app b = sfx q k set kids (r.app b) := by
  cases q <;> rfl
end Go.Proofs.YtonifkkdokaooaaFmt.Re

/- PLAIN: what a tree matches, as a relation between places. No program stands here. -/
namespace Go.Proofs.YtonifkkdokaooaaFmt.Re
set_option linter.unusedVariables false

structure Rel where
  seq : Nat → Nat → Prop
  alt : Nat → Nat → Prop
  hd : Nat → Nat → Prop
def pow (R : Nat → Nat → Prop) : Nat → Nat → Nat → Prop
  | 0, i, j => i = j
  | n + 1, i, j => ∃ k, R i k ∧ pow R n k j
def setR (s : List UInt8) (set : List Bool) (i j : Nat) : Prop := j = i + 1 ∧ ∃ c, s[i]? = some c ∧ c.toNat < 128 ∧ set.getD c.toNat false = true
def timesR (R : Nat → Nat → Prop) (l m : Int) (i j : Nat) : Prop := ∃ n : Nat, l ≤ n ∧ (m < 0 ∨ (n : Int) ≤ m) ∧ pow R n i j
def nodeR (s : List UInt8) (k : Nat) (set : List Bool) (R : Rel) (l m : Int) (i j : Nat) : Prop :=
  if k = 1 then setR s set i j
  else if k = 2 then R.seq i j
  else if k = 3 then R.alt i j
  else if k = 4 then timesR R.hd l m i j
  else if k = 5 then i = 0 ∧ j = 0
  else if k = 6 then i = s.length ∧ j = s.length
  else False
def rel (s : List UInt8) : Fo → Rel
  | .nil => ⟨fun i j => i = j, fun _ _ => False, fun i j => i = j⟩
  | .cons k set kids l m rest =>
    ⟨fun i j => ∃ t, nodeR s k set (rel s kids) l m i t ∧ (rel s rest).seq t j, fun i j => nodeR s k set (rel s kids) l m i j ∨ (rel s rest).alt i j, nodeR s k set (rel s kids) l m⟩
/-- times come at least once or not at all, and at most once or as often as one likes -/
def Fo.tame : Fo → Prop
  | .nil => True
  | .cons k _ kids l m rest => (k = 4 → 0 ≤ l ∧ (m < 0 ∨ l ≤ m)) ∧ kids.tame ∧ rest.tame

def Bd (N : Nat) (R : Nat → Nat → Prop) : Prop := ∀ i j, i ≤ N → R i j → i ≤ j ∧ j ≤ N
theorem Bd.pow {N : Nat} {R : Nat → Nat → Prop} (h : Bd N R) : ∀ n, Bd N (pow R n)
  | 0, i, j, hi, e => by cases e; exact ⟨Nat.le_refl _, hi⟩
  | n + 1, i, j, hi, ⟨k, h1, h2⟩ => by
    have a := h i k hi h1
    have b := Bd.pow h n k j a.2 h2
    omega
theorem nodeR_bd (s : List UInt8) (k : Nat) (set : List Bool) (R : Rel) (l m : Int) (h1 : Bd s.length R.seq) (h2 : Bd s.length R.alt) (h3 : Bd s.length R.hd) : Bd s.length (nodeR s k set R l m) := by
  intro i j hi h
  unfold nodeR at h
  split at h
  · obtain ⟨rfl, c, hc, _⟩ := h
    have := (List.getElem?_eq_some_iff.1 hc).1
    omega
  split at h
  · exact h1 i j hi h
  split at h
  · exact h2 i j hi h
  split at h
  · obtain ⟨n, _, _, h⟩ := h; exact h3.pow n i j hi h
  split at h
  · omega
  split at h
  · omega
  · exact h.elim
theorem rel_bd (s : List UInt8) : ∀ F : Fo, Bd s.length (rel s F).seq ∧ Bd s.length (rel s F).alt ∧ Bd s.length (rel s F).hd
  | .nil => ⟨fun i j hi h => by cases h; exact ⟨Nat.le_refl _, hi⟩, fun _ _ _ h => h.elim, fun i j hi h => by cases h; exact ⟨Nat.le_refl _, hi⟩⟩
  | .cons k set kids l m rest => by
    obtain ⟨a1, a2, a3⟩ := rel_bd s kids
    obtain ⟨b1, b2, b3⟩ := rel_bd s rest
    have hn := nodeR_bd s k set (rel s kids) l m a1 a2 a3
    refine ⟨?_, ?_, hn⟩
    · rintro i j hi ⟨t, h1, h2⟩
      have a := hn i t hi h1
      have b := b1 t j a.2 h2
      omega
    · rintro i j hi (h | h)
      · exact hn i j hi h
      · exact b2 i j hi h

/-- is a place there -/
def On (x : List Bool) (j : Nat) : Prop := x.getD j false = true
theorem on_or (a b : List Bool) (h : b.length = a.length) (j : Nat) : On (bOr a b) j ↔ On a j ∨ On b j := by
  unfold On bOr
  simp only [List.getD_eq_getElem?_getD, List.getElem?_zipWith]
  rcases Nat.lt_or_ge j a.length with h1 | h1
  · rw [List.getElem?_eq_getElem h1, List.getElem?_eq_getElem (by omega : j < b.length)]; simp
  · rw [List.getElem?_eq_none h1, List.getElem?_eq_none (by omega : b.length ≤ j)]; simp
theorem on_falses (n j : Nat) : ¬ On (falses n) j := by
  unfold On falses
  rw [List.getD_eq_getElem?_getD, List.getElem?_replicate]
  split <;> simp
theorem on_lt {x : List Bool} {j : Nat} (h : On x j) : j < x.length := by
  unfold On at h
  rcases Nat.lt_or_ge j x.length with h1 | h1
  · exact h1
  · rw [List.getD_eq_getElem?_getD, List.getElem?_eq_none h1] at h; simp at h
theorem on_trues (n j : Nat) : On (trues n) j ↔ j < n := by
  unfold On trues
  rw [List.getD_eq_getElem?_getD, List.getElem?_replicate]
  split <;> simp_all
/-- a step that does as a relation says -/
def Sp (N : Nat) (E : List Bool → List Bool) (R : Nat → Nat → Prop) : Prop := ∀ x, x.length = N + 1 → (E x).length = N + 1 ∧ ∀ j, On (E x) j ↔ ∃ i, On x i ∧ R i j
theorem setE_sp (s : List UInt8) (set : List Bool) : Sp s.length (setE s set) (setR s set) := by
  intro x hx
  refine ⟨setE_length s set x hx, fun j => ?_⟩
  cases j with
  | zero =>
    constructor
    · intro h; simp [On, setE] at h
    · rintro ⟨i, _, h, _⟩; omega
  | succ j =>
    have e : On (setE s set x) (j + 1) ↔ On (List.zipWith (fun (c : UInt8) (p : Bool) => p && (decide (c.toNat < 128) && set.getD c.toNat false)) s x) j := by
      unfold On setE; simp
    rw [e]
    constructor
    · intro h
      have hl := on_lt h
      simp only [List.length_zipWith] at hl
      have h1 : j < s.length := by omega
      have h2 : j < x.length := by omega
      unfold On at h
      rw [List.getD_eq_getElem?_getD, List.getElem?_zipWith, List.getElem?_eq_getElem h1, List.getElem?_eq_getElem h2] at h
      simp only [Option.getD_some, Bool.and_eq_true, decide_eq_true_eq] at h
      refine ⟨j, ?_, rfl, s[j], List.getElem?_eq_getElem h1, h.2.1, h.2.2⟩
      unfold On; rw [List.getD_eq_getElem?_getD, List.getElem?_eq_getElem h2]; exact h.1
    · rintro ⟨i, hi, hj, c, hc, h1, h2⟩
      obtain rfl : j = i := by omega
      have hl := (List.getElem?_eq_some_iff.1 hc).1
      have hxl := on_lt hi
      unfold On at hi ⊢
      rw [List.getD_eq_getElem?_getD, List.getElem?_eq_getElem hxl] at hi
      rw [List.getD_eq_getElem?_getD, List.getElem?_zipWith, hc, List.getElem?_eq_getElem hxl]
      simp only [Option.getD_some] at hi ⊢
      rw [hi, h2]; simp [h1]
theorem pow_snoc (R : Nat → Nat → Prop) : ∀ n i j, pow R (n + 1) i j ↔ ∃ k, pow R n i k ∧ R k j
  | 0, i, j => by
    constructor
    · rintro ⟨k, h, rfl⟩; exact ⟨i, rfl, h⟩
    · rintro ⟨k, rfl, h⟩; exact ⟨j, h, rfl⟩
  | n + 1, i, j => by
    constructor
    · rintro ⟨k, h, h2⟩
      obtain ⟨t, h3, h4⟩ := (pow_snoc R n k j).1 h2
      exact ⟨t, ⟨k, h, h3⟩, h4⟩
    · rintro ⟨t, ⟨k, h, h3⟩, h4⟩
      exact ⟨k, h, (pow_snoc R n k j).2 ⟨t, h3, h4⟩⟩
theorem iter_sp {N : Nat} {E : List Bool → List Bool} {R : Nat → Nat → Prop} (h : Sp N E R) : ∀ n, Sp N (iter E n) (pow R n)
  | 0, x, hx => ⟨hx, fun j => ⟨fun hj => ⟨j, hj, rfl⟩, by rintro ⟨i, hi, rfl⟩; exact hi⟩⟩
  | n + 1, x, hx => by
    obtain ⟨l1, h1⟩ := h x hx
    obtain ⟨l2, h2⟩ := iter_sp h n (E x) l1
    refine ⟨l2, fun j => (h2 j).trans ?_⟩
    constructor
    · rintro ⟨i, hi, hp⟩
      obtain ⟨i', hi', hr⟩ := (h1 i).1 hi
      exact ⟨i', hi', i, hr, hp⟩
    · rintro ⟨i, hi, k, hr, hp⟩
      exact ⟨k, (h1 k).2 ⟨i, hi, hr⟩, hp⟩
theorem tm_sp {N : Nat} {E : List Bool → List Bool} {R : Nat → Nat → Prop} (h : Sp N E R) (x : List Bool) (l : Nat) (m : Int) (hlm : m < 0 ∨ (l : Int) ≤ m) :
    ∀ (f k : Nat) (now out : List Bool), now.length = N + 1 → out.length = N + 1 → l ≤ k → (m < 0 ∨ (k : Int) ≤ m) → miss out < f →
      (∀ j, On now j ↔ ∃ i, On x i ∧ pow R k i j) → (∀ j, On out j ↔ ∃ t, l ≤ t ∧ t ≤ k ∧ ∃ i, On x i ∧ pow R t i j) →
      (tmL E m f k now out).length = N + 1 ∧ ∀ j, On (tmL E m f k now out) j ↔ ∃ i, On x i ∧ timesR R l m i j
  | 0, k, now, out, _, _, _, _, hf, _, _ => by omega
  | f + 1, k, now, out, hn, ho, hlk, hkm, hf, h1, h2 => by
    obtain ⟨l3, h3⟩ := h now hn
    have hor := on_or out (E now) (by rw [l3, ho])
    have hmo := miss_or out (E now) (by rw [l3, ho])
    have hstep : ∀ j, On (E now) j ↔ ∃ i, On x i ∧ pow R (k + 1) i j := by
      intro j
      rw [h3 j]
      constructor
      · rintro ⟨i, hi, hr⟩
        obtain ⟨i', hi', hp⟩ := (h1 i).1 hi
        exact ⟨i', hi', (pow_snoc R k i' j).2 ⟨i, hp, hr⟩⟩
      · rintro ⟨i, hi, hp⟩
        obtain ⟨t, hp, hr⟩ := (pow_snoc R k i j).1 hp
        exact ⟨t, (h1 t).2 ⟨i, hi, hp⟩, hr⟩
    unfold tmL
    split
    · rename_i hm
      split
      · rename_i heq
        refine ⟨ho, fun j => ?_⟩
        have hsub : ∀ j, On (E now) j → On out j := fun j hj => by have := (hor j).2 (.inr hj); rwa [heq] at this
        have all : ∀ t, l ≤ t → ∀ j, (∃ i, On x i ∧ pow R t i j) → On out j := by
          intro t
          induction t with
          | zero => intro hl j hj; exact (h2 j).2 ⟨0, hl, Nat.zero_le _, hj⟩
          | succ t ih =>
            intro hl j hj
            by_cases hlt : l ≤ t
            · obtain ⟨i, hi, hp⟩ := hj
              obtain ⟨u, hp, hr⟩ := (pow_snoc R t i j).1 hp
              obtain ⟨t', a, b, i', hi', hp'⟩ := (h2 u).1 (ih hlt u ⟨i, hi, hp⟩)
              by_cases e : t' = k
              · subst e; exact hsub j ((hstep j).2 ⟨i', hi', (pow_snoc R t' i' j).2 ⟨u, hp', hr⟩⟩)
              · exact (h2 j).2 ⟨t' + 1, by omega, by omega, i', hi', (pow_snoc R t' i' j).2 ⟨u, hp', hr⟩⟩
            · obtain rfl : l = t + 1 := by omega
              exact (h2 j).2 ⟨t + 1, Nat.le_refl _, hlk, hj⟩
        constructor
        · intro hj
          obtain ⟨t, a, b, i, hi, hp⟩ := (h2 j).1 hj
          exact ⟨i, hi, t, by omega, by omega, hp⟩
        · rintro ⟨i, hi, t, a, b, hp⟩
          exact all t (by omega) j ⟨i, hi, hp⟩
      · rename_i hne
        have hms := hmo.2 hne
        have e : ((k : Int) + 1) = ((k + 1 : Nat) : Int) := by omega
        rw [e]
        refine tm_sp h x l m hlm f (k + 1) (E now) (bOr out (E now)) l3 (by rw [bOr_length _ _ (by rw [l3, ho])]; exact ho) (by omega) (by omega) (by omega) hstep ?_
        intro j
        rw [hor j, h2 j, hstep j]
        constructor
        · rintro (⟨t, a, b, c⟩ | c)
          · exact ⟨t, a, by omega, c⟩
          · exact ⟨k + 1, by omega, Nat.le_refl _, c⟩
        · rintro ⟨t, a, b, c⟩
          by_cases e : t = k + 1
          · subst e; exact .inr c
          · exact .inl ⟨t, a, by omega, c⟩
    · rename_i hm
      refine ⟨ho, fun j => (h2 j).trans ?_⟩
      constructor
      · rintro ⟨t, a, b, i, hi, hp⟩
        exact ⟨i, hi, t, by omega, by omega, hp⟩
      · rintro ⟨i, hi, t, a, b, hp⟩
        exact ⟨t, by omega, by omega, i, hi, hp⟩
theorem times_sp {N : Nat} {E : List Bool → List Bool} {R : Nat → Nat → Prop} (h : Sp N E R) (l m : Int) (hl : 0 ≤ l) (hlm : m < 0 ∨ l ≤ m) : Sp N (timesE E l m N) (timesR R l m) := by
  intro x hx
  obtain ⟨l', rfl⟩ : ∃ l' : Nat, l = l' := ⟨l.toNat, by omega⟩
  obtain ⟨l1, h1⟩ := iter_sp h l' x hx
  unfold timesE
  rw [Int.toNat_natCast]
  refine tm_sp h x l' m hlm (N + 2) l' _ _ l1 l1 (Nat.le_refl _) hlm ?_ h1 ?_
  · have := miss_le (iter E l' x); omega
  · intro j
    rw [h1 j]
    constructor
    · intro hh; exact ⟨l', Nat.le_refl _, Nat.le_refl _, hh⟩
    · rintro ⟨t, a, b, hh⟩
      obtain rfl : t = l' := by omega
      exact hh
theorem beg_sp (N : Nat) : Sp N (begE N) (fun i j => i = 0 ∧ j = 0) := by
  intro x hx
  refine ⟨by simp [begE, falses], fun j => ?_⟩
  cases j with
  | zero => constructor
            · intro h; exact ⟨0, by simpa [On, begE] using h, rfl, rfl⟩
            · rintro ⟨i, hi, rfl, _⟩; simpa [On, begE] using hi
  | succ j =>
    constructor
    · intro h; exact absurd (show On (falses N) j by simpa [On, begE] using h) (on_falses N j)
    · rintro ⟨i, hi, _, h⟩; omega
theorem fin_sp (N : Nat) : Sp N (finE N) (fun i j => i = N ∧ j = N) := by
  intro x hx
  refine ⟨by simp [finE, falses], fun j => ?_⟩
  have key : On (finE N x) j ↔ j = N ∧ On x N := by
    unfold On finE
    simp only [List.getD_eq_getElem?_getD]
    rcases Nat.lt_trichotomy j N with h | h | h
    · rw [List.getElem?_append_left (by simp [falses]; omega)]
      constructor
      · intro hh; exact absurd (show On (falses N) j by simpa [On, List.getD_eq_getElem?_getD] using hh) (on_falses N j)
      · intro hh; omega
    · subst h
      rw [List.getElem?_append_right (by simp [falses])]
      simp [falses]
    · rw [List.getElem?_eq_none (by simp [falses]; omega)]
      constructor
      · intro hh; simp at hh
      · intro hh; omega
  rw [key]
  constructor
  · rintro ⟨rfl, h⟩; exact ⟨j, h, rfl, rfl⟩
  · rintro ⟨i, hi, rfl, rfl⟩; exact ⟨rfl, hi⟩
theorem node_sp (s : List UInt8) (k : Nat) (set : List Bool) (M : Mean) (R : Rel) (l m : Int) (h4 : k = 4 → 0 ≤ l ∧ (m < 0 ∨ l ≤ m)) (h1 : Sp s.length M.seq R.seq) (h2 : Sp s.length (M.alt (falses (s.length + 1))) R.alt) (h3 : Sp s.length M.hd R.hd) :
    Sp s.length (nodeE s k set M l m) (nodeR s k set R l m) := by
  by_cases e1 : k = 1
  · subst e1; exact setE_sp s set
  by_cases e2 : k = 2
  · subst e2; exact h1
  by_cases e3 : k = 3
  · subst e3; exact h2
  by_cases e4 : k = 4
  · subst e4; exact times_sp h3 l m (h4 rfl).1 (h4 rfl).2
  by_cases e5 : k = 5
  · subst e5; exact beg_sp _
  by_cases e6 : k = 6
  · subst e6; exact fin_sp _
  · intro x hx
    unfold nodeE nodeR
    simp only [e1, e2, e3, e4, e5, e6, if_false]
    exact ⟨falses_length _, fun j => ⟨fun h => absurd h (on_falses _ j), by rintro ⟨_, _, h⟩; exact h.elim⟩⟩
/-- the tree matches as the relation says -/
theorem mean_sp (s : List UInt8) : ∀ F : Fo, F.tame → Sp s.length (mean s F).seq (rel s F).seq ∧
    (∀ acc, acc.length = s.length + 1 → ∀ x, x.length = s.length + 1 → ((mean s F).alt acc x).length = s.length + 1 ∧ ∀ j, On ((mean s F).alt acc x) j ↔ On acc j ∨ ∃ i, On x i ∧ (rel s F).alt i j) ∧ Sp s.length (mean s F).hd (rel s F).hd
  | .nil, _ => ⟨fun x hx => ⟨hx, fun j => ⟨fun hj => ⟨j, hj, rfl⟩, by rintro ⟨i, hi, rfl⟩; exact hi⟩⟩,
    fun acc ha x hx => ⟨ha, fun j => ⟨fun h => .inl h, by rintro (h | ⟨_, _, h⟩); exact h; exact h.elim⟩⟩,
    fun x hx => ⟨hx, fun j => ⟨fun hj => ⟨j, hj, rfl⟩, by rintro ⟨i, hi, rfl⟩; exact hi⟩⟩⟩
  | .cons k set kids l m rest, ⟨t0, t1, t2⟩ => by
    obtain ⟨a1, a2, a3⟩ := mean_sp s kids t1
    obtain ⟨b1, b2, b3⟩ := mean_sp s rest t2
    have hn := node_sp s k set (mean s kids) (rel s kids) l m t0 a1 (fun x hx => ⟨(a2 _ (falses_length _) x hx).1, fun j => ((a2 _ (falses_length _) x hx).2 j).trans ⟨fun h => h.elim (fun h => absurd h (on_falses _ j)) id, .inr⟩⟩) a3
    refine ⟨fun x hx => ?_, fun acc ha x hx => ?_, hn⟩
    · obtain ⟨l1, h1⟩ := hn x hx
      obtain ⟨l2, h2⟩ := b1 _ l1
      refine ⟨l2, fun j => (h2 j).trans ?_⟩
      constructor
      · rintro ⟨i, hi, hr⟩
        obtain ⟨i', hi', hr'⟩ := (h1 i).1 hi
        exact ⟨i', hi', i, hr', hr⟩
      · rintro ⟨i, hi, t, hr, hr2⟩
        exact ⟨t, (h1 t).2 ⟨i, hi, hr⟩, hr2⟩
    · obtain ⟨l1, h1⟩ := hn x hx
      have hlo : (bOr acc (nodeE s k set (mean s kids) l m x)).length = s.length + 1 := by rw [bOr_length _ _ (by rw [l1, ha])]; exact ha
      obtain ⟨l2, h2⟩ := b2 _ hlo x hx
      refine ⟨l2, fun j => (h2 j).trans ?_⟩
      rw [on_or _ _ (by rw [l1, ha]), h1 j]
      constructor
      · rintro ((h | ⟨i, hi, hr⟩) | ⟨i, hi, hr⟩)
        · exact .inl h
        · exact .inr ⟨i, hi, .inl hr⟩
        · exact .inr ⟨i, hi, .inr hr⟩
      · rintro (h | ⟨i, hi, hr | hr⟩)
        · exact .inl (.inl h)
        · exact .inl (.inr ⟨i, hi, hr⟩)
        · exact .inr ⟨i, hi, hr⟩
theorem found_iff (s : List UInt8) (F : Fo) (h : F.tame) : foundE s 3 no128 F 0 0 = true ↔ ∃ i j, i ≤ s.length ∧ (rel s F).alt i j := by
  obtain ⟨l1, h1⟩ := (mean_sp s F h).2.1 (falses (s.length + 1)) (falses_length _) (trues (s.length + 1)) (by simp [trues])
  have e : foundE s 3 no128 F 0 0 = ((mean s F).alt (falses (s.length + 1)) (trues (s.length + 1))).any id := rfl
  rw [e, List.any_eq_true]
  constructor
  · rintro ⟨b, hb, hbt⟩
    obtain ⟨j, hj, e⟩ := List.mem_iff_getElem.1 hb
    have hon : On ((mean s F).alt (falses (s.length + 1)) (trues (s.length + 1))) j := by
      unfold On; rw [List.getD_eq_getElem?_getD, List.getElem?_eq_getElem hj, e]; exact hbt
    rcases (h1 j).1 hon with h | ⟨i, hi, hr⟩
    · exact absurd h (on_falses _ j)
    · exact ⟨i, j, by have := (on_trues _ i).1 hi; omega, hr⟩
  · rintro ⟨i, j, hi, hr⟩
    have hon := (h1 j).2 (.inr ⟨i, (on_trues _ i).2 (by omega), hr⟩)
    have hl := on_lt hon
    refine ⟨_, List.getElem_mem hl, ?_⟩
    unfold On at hon
    rw [List.getD_eq_getElem?_getD, List.getElem?_eq_getElem hl] at hon
    exact hon

/-- each tree that a text of G gives is tame -/
theorem sfx_tame (q : Su) (k : Nat) (set : List Bool) (kids r : Fo) (hk : k ≠ 4) (h1 : kids.tame) (h2 : r.tame) : (sfx q k set kids r).tame := by
  cases q <;> simp [sfx, Fo.tame, hk, h1, h2]
theorem ms_tame : ∀ (g : G) (fold dot : Bool), (ms g fold dot).1.tame ∧ (ms g fold dot).2.tame
  | .done, _, _ => ⟨trivial, trivial⟩
  | .bar r, fold, dot => ⟨trivial, by simp [ms, Fo.tame, ms_tame r fold dot]⟩
  | .ato a q r, fold, dot => ⟨sfx_tame q _ _ _ _ (by cases a <;> simp [ndA]) trivial (ms_tame r fold dot).1, (ms_tame r fold dot).2⟩
  | .grp i q r, fold, dot => ⟨sfx_tame q _ _ _ _ (by simp) (by simp [Fo.tame, ms_tame i fold dot]) (ms_tame r fold dot).1, (ms_tame r fold dot).2⟩
  | .flg i u r, fold, dot => ⟨by simp [ms, Fo.tame, ms_tame r (fold || i) true], (ms_tame r (fold || i) true).2⟩
theorem lists_tame (g : G) (fold dot : Bool) : (lists g fold dot).tame := by simp [lists, Fo.tame, ms_tame g fold dot]
end Go.Proofs.YtonifkkdokaooaaFmt.Re
