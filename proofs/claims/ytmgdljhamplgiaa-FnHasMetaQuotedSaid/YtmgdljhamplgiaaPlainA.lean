/- The plain functions of the texts that HasMeta, QuoteMeta and the reference compute, over lists of bytes. No program stands here. -/
namespace Go.Proofs.Ytmgdljhamplgiaa.Pat

/-- a letter or a digit -/
def letterI (n : Int) : Bool := (decide (48 ≤ n) && decide (n ≤ 57)) || (decide (97 ≤ n) && decide (n ≤ 122)) || (decide (65 ≤ n) && decide (n ≤ 90))
/-- a letter, a digit or an underscore -/
def wordI (n : Int) : Bool := letterI n || n == 95
def wordL (l : List UInt8) : Bool := l.all fun c => wordI c.toNat
def asciiL (l : List UInt8) : Bool := l.all fun c => decide (c.toNat ≤ 127)

/-- HasMeta: the states are whether a bracket is open, and whether the byte stands behind a backslash -/
def metaE : Bool → Bool → List UInt8 → Bool
  | _, _, [] => false
  | o, true, _ :: r => metaE o false r
  | o, false, c :: r =>
    if c.toNat = 92 then metaE o true r
    else if c.toNat = 42 ∨ c.toNat = 63 then true
    else if c.toNat = 91 then metaE true false r
    else if c.toNat = 93 ∧ o = true then true
    else metaE o false r
def metaL (o : Bool) (l : List UInt8) : Bool := metaE o false l
theorem metaE_true (o : Bool) (r : List UInt8) : metaE o true r = metaE o false (r.drop 1) := by
  cases r <;> simp [metaE]

theorem meta_esc {c : UInt8} {o : Bool} {r : List UInt8} (h : ((c.toNat : Int) == 92) = true) : metaL o (c :: r) = metaL o (r.drop 1) := by
  have h : c.toNat = 92 := by have := beq_iff_eq.1 h; omega
  rw [metaL, metaE, if_pos h, metaE_true, metaL]
theorem ne_of {c : UInt8} {n : Nat} (h : ((c.toNat : Int) == (n : Int)) = false) : ¬ c.toNat = n := by
  have := beq_eq_false_iff_ne.1 h; omega
theorem eq_of {c : UInt8} {n : Nat} (h : ((c.toNat : Int) == (n : Int)) = true) : c.toNat = n := by
  have := beq_iff_eq.1 h; omega
theorem meta_star {c : UInt8} {o : Bool} {r : List UInt8} (h : ((c.toNat : Int) == 42) = true) : metaL o (c :: r) = true := by
  have h := eq_of (n := 42) h
  simp [metaL, metaE, h]
theorem meta_any {c : UInt8} {o : Bool} {r : List UInt8} (h : ((c.toNat : Int) == 63) = true) : metaL o (c :: r) = true := by
  have h := eq_of (n := 63) h
  simp [metaL, metaE, h]
theorem meta_open {c : UInt8} {o : Bool} {r : List UInt8} (h : ((c.toNat : Int) == 91) = true) : metaL o (c :: r) = metaL true r := by
  have h := eq_of (n := 91) h
  simp [metaL, metaE, h]
theorem meta_close {c : UInt8} {r : List UInt8} (h : ((c.toNat : Int) == 93) = true) : metaL true (c :: r) = true := by
  have h := eq_of (n := 93) h
  simp [metaL, metaE, h]
theorem meta_close0 {c : UInt8} {r : List UInt8} (h : ((c.toNat : Int) == 93) = true) : metaL false (c :: r) = metaL false r := by
  have h := eq_of (n := 93) h
  simp [metaL, metaE, h]
theorem meta_other {c : UInt8} {o : Bool} {r : List UInt8} (h1 : ((c.toNat : Int) == 92) = false) (h2 : ((c.toNat : Int) == 42) = false) (h3 : ((c.toNat : Int) == 63) = false)
    (h4 : ((c.toNat : Int) == 91) = false) (h5 : ((c.toNat : Int) == 93) = false) : metaL o (c :: r) = metaL o r := by
  have h1 := ne_of (n := 92) h1
  have h2 := ne_of (n := 42) h2
  have h3 := ne_of (n := 63) h3
  have h4 := ne_of (n := 91) h4
  have h5 := ne_of (n := 93) h5
  simp [metaL, metaE, h1, h2, h3, h4, h5]
theorem drop_cons (s : ByteArray) (k : Nat) (h : k < s.size) : s.data.toList.drop k = s[k] :: s.data.toList.drop (k + 1) := by
  rw [List.drop_eq_getElem_cons (by simpa using h)]; rfl
theorem drop_end (s : ByteArray) (k : Nat) (h : s.size ≤ k) : s.data.toList.drop k = [] := by
  rw [List.drop_eq_nil_iff]; simpa using h

theorem word_range {n : Nat} (h : wordI n = true) : (48 ≤ n ∧ n ≤ 57) ∨ (97 ≤ n ∧ n ≤ 122) ∨ (65 ≤ n ∧ n ≤ 90) ∨ n = 95 := by
  simp [wordI, letterI] at h; omega
theorem metaL_word (o : Bool) : ∀ (a r : List UInt8), wordL a = true → metaL o (a ++ r) = metaL o r
  | [], r, _ => rfl
  | c :: a, r, h => by
    have h' : wordI c.toNat = true ∧ wordL a = true := by simpa [wordL] using h
    have hc := word_range h'.1
    rw [← metaL_word o a r h'.2]
    have h1 : ¬ c.toNat = 92 := by omega
    have h2 : ¬ c.toNat = 42 := by omega
    have h3 : ¬ c.toNat = 63 := by omega
    have h4 : ¬ c.toNat = 91 := by omega
    have h5 : ¬ c.toNat = 93 := by omega
    simp [metaL, metaE, h1, h2, h3, h4, h5]
theorem metaL_word_nil (o : Bool) (a : List UInt8) (h : wordL a = true) : metaL o a = false := by
  have := metaL_word o a [] h
  simpa [metaL, metaE] using this
theorem meta_law_any (a b : List UInt8) (h : wordL a = true) : metaL false (a ++ [63] ++ b) = true := by
  rw [List.append_assoc, metaL_word _ _ _ h]; simp [metaL, metaE]
theorem meta_law_star (a b : List UInt8) (h : wordL a = true) : metaL false (a ++ [42] ++ b) = true := by
  rw [List.append_assoc, metaL_word _ _ _ h]; simp [metaL, metaE]
theorem meta_law_quoted (a b : List UInt8) (h : wordL a = true) (h2 : wordL b = true) : metaL false (a ++ [92, 42] ++ b) = false := by
  rw [List.append_assoc, metaL_word _ _ _ h]; have := metaL_word_nil false b h2; simpa [metaL, metaE] using this
theorem data_app (a b : ByteArray) : (a ++ b).data.toList = a.data.toList ++ b.data.toList := by
  simp [ByteArray.data_append]

theorem size_mid (a b : ByteArray) (l : Array UInt8) (h : a.size ≤ 2147483647) (h2 : b.size ≤ 2147483647) (h3 : l.size ≤ 2) : (a ++ ⟨l⟩ ++ b).size < 9223372036854775806 := by
  have h4 : (ByteArray.mk l).size ≤ 2 := h3
  simp only [ByteArray.size_append]
  omega
end Go.Proofs.Ytmgdljhamplgiaa.Pat
