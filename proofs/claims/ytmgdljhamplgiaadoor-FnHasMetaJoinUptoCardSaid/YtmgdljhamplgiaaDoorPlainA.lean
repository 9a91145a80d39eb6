/- The plain functions of the texts that HasMeta, QuoteMeta and the reference compute, over lists of bytes. No program stands here. -/
namespace Go.Proofs.YtmgdljhamplgiaaDoor.Pat

/-- a letter or a digit -/
def letterI (n : Int) : Bool := (decide (48 ≤ n) && decide (n ≤ 57)) || (decide (97 ≤ n) && decide (n ≤ 122)) || (decide (65 ≤ n) && decide (n ≤ 90))
/-- a letter, a digit or an underscore -/
def wordI (n : Int) : Bool := letterI n || n == 95
def wordL (l : List UInt8) : Bool := l.all fun c => wordI c.toNat
def asciiL (l : List UInt8) : Bool := l.all fun c => decide (c.toNat ≤ 127)

/-- HasMeta: the states are whether a bracket is open, and whether the byte stands behind a backslash -/
def metaE : Bool → Bool → List UInt8 → Bool
  | _, _, [] => false
  | o, true, _ :: r => metaE o false r
  | o, false, c :: r =>
    if c.toNat = 92 then metaE o true r
    else if c.toNat = 42 ∨ c.toNat = 63 then true
    else if c.toNat = 91 then metaE true false r
    else if c.toNat = 93 ∧ o = true then true
    else metaE o false r
def metaL (o : Bool) (l : List UInt8) : Bool := metaE o false l
theorem metaE_true (o : Bool) (r : List UInt8) : metaE o true r = metaE o false (r.drop 1) := by
  cases r <;> simp [metaE]

theorem meta_esc {c : UInt8} {o : Bool} {r : List UInt8} (h : ((c.toNat : Int) == 92) = true) : metaL o (c :: r) = metaL o (r.drop 1) := by
  have h : c.toNat = 92 := by have := beq_iff_eq.1 h; omega
  rw [metaL, metaE, if_pos h, metaE_true, metaL]
theorem ne_of {c : UInt8} {n : Nat} (h : ((c.toNat : Int) == (n : Int)) = false) : ¬ c.toNat = n := by
  have := beq_eq_false_iff_ne.1 h; omega
theorem eq_of {c : UInt8} {n : Nat} (h : ((c.toNat : Int) == (n : Int)) = true) : c.toNat = n := by
  have := beq_iff_eq.1 h; omega
theorem meta_star {c : UInt8} {o : Bool} {r : List UInt8} (h : ((c.toNat : Int) == 42) = true) : metaL o (c :: r) = true := by
  have h := eq_of (n := 42) h
  simp [metaL, metaE, h]
theorem meta_any {c : UInt8} {o : Bool} {r : List UInt8} (h : ((c.toNat : Int) == 63) = true) : metaL o (c :: r) = true := by
  have h := eq_of (n := 63) h
  simp [metaL, metaE, h]
theorem meta_open {c : UInt8} {o : Bool} {r : List UInt8} (h : ((c.toNat : Int) == 91) = true) : metaL o (c :: r) = metaL true r := by
  have h := eq_of (n := 91) h
  simp [metaL, metaE, h]
theorem meta_close {c : UInt8} {r : List UInt8} (h : ((c.toNat : Int) == 93) = true) : metaL true (c :: r) = true := by
  have h := eq_of (n := 93) h
  simp [metaL, metaE, h]
theorem meta_close0 {c : UInt8} {r : List UInt8} (h : ((c.toNat : Int) == 93) = true) : metaL false (c :: r) = metaL false r := by
  have h := eq_of (n := 93) h
  simp [metaL, metaE, h]
theorem meta_other {c : UInt8} {o : Bool} {r : List UInt8} (h1 : ((c.toNat : Int) == 92) = false) (h2 : ((c.toNat : Int) == 42) = false) (h3 : ((c.toNat : Int) == 63) = false)
    (h4 : ((c.toNat : Int) == 91) = false) (h5 : ((c.toNat : Int) == 93) = false) : metaL o (c :: r) = metaL o r := by
  have h1 := ne_of (n := 92) h1
  have h2 := ne_of (n := 42) h2
  have h3 := ne_of (n := 63) h3
  have h4 := ne_of (n := 91) h4
  have h5 := ne_of (n := 93) h5
  simp [metaL, metaE, h1, h2, h3, h4, h5]
theorem drop_cons (s : ByteArray) (k : Nat) (h : k < s.size) : s.data.toList.drop k = s[k] :: s.data.toList.drop (k + 1) := by
  rw [List.drop_eq_getElem_cons (by simpa using h)]; rfl
theorem drop_end (s : ByteArray) (k : Nat) (h : s.size ≤ k) : s.data.toList.drop k = [] := by
  rw [List.drop_eq_nil_iff]; simpa using h

theorem word_range {n : Nat} (h : wordI n = true) : (48 ≤ n ∧ n ≤ 57) ∨ (97 ≤ n ∧ n ≤ 122) ∨ (65 ≤ n ∧ n ≤ 90) ∨ n = 95 := by
  simp [wordI, letterI] at h; omega
theorem metaL_word (o : Bool) : ∀ (a r : List UInt8), wordL a = true → metaL o (a ++ r) = metaL o r
  | [], r, _ => rfl
  | c :: a, r, h => by
    have h' : wordI c.toNat = true ∧ wordL a = true := by simpa [wordL] using h
    have hc := word_range h'.1
    rw [← metaL_word o a r h'.2]
    have h1 : ¬ c.toNat = 92 := by omega
    have h2 : ¬ c.toNat = 42 := by omega
    have h3 : ¬ c.toNat = 63 := by omega
    have h4 : ¬ c.toNat = 91 := by omega
    have h5 : ¬ c.toNat = 93 := by omega
    simp [metaL, metaE, h1, h2, h3, h4, h5]
theorem metaL_word_nil (o : Bool) (a : List UInt8) (h : wordL a = true) : metaL o a = false := by
  have := metaL_word o a [] h
  simpa [metaL, metaE] using this
theorem meta_law_any (a b : List UInt8) (h : wordL a = true) : metaL false (a ++ [63] ++ b) = true := by
  rw [List.append_assoc, metaL_word _ _ _ h]; simp [metaL, metaE]
theorem meta_law_star (a b : List UInt8) (h : wordL a = true) : metaL false (a ++ [42] ++ b) = true := by
  rw [List.append_assoc, metaL_word _ _ _ h]; simp [metaL, metaE]
theorem meta_law_quoted (a b : List UInt8) (h : wordL a = true) (h2 : wordL b = true) : metaL false (a ++ [92, 42] ++ b) = false := by
  rw [List.append_assoc, metaL_word _ _ _ h]; have := metaL_word_nil false b h2; simpa [metaL, metaE] using this
theorem data_app (a b : ByteArray) : (a ++ b).data.toList = a.data.toList ++ b.data.toList := by
  simp [ByteArray.data_append]

/-- a byte that QuoteMeta quotes -/
def quotedB (c : UInt8) : Bool := c.toNat == 42 || c.toNat == 63 || c.toNat == 91 || c.toNat == 92
def quote1 (c : UInt8) : List UInt8 := if quotedB c then [92, c] else [c]
def quoteL (l : List UInt8) : List UInt8 := l.flatMap quote1
theorem quoteL_plain : ∀ l : List UInt8, (∀ c ∈ l, quotedB c = false) → quoteL l = l
  | [], _ => rfl
  | c :: r, h => by
    have h1 := h c (by simp)
    have h2 := quoteL_plain r (fun x hx => h x (by simp [hx]))
    simp only [quoteL] at h2
    simp [quoteL, quote1, h1, h2]
theorem quoteL_length : ∀ l : List UInt8, l.length ≤ (quoteL l).length ∧ (quoteL l).length ≤ 2 * l.length
  | [] => by simp [quoteL]
  | c :: r => by
    have h := quoteL_length r
    simp only [quoteL] at h
    simp only [quoteL, List.flatMap_cons, List.length_append, List.length_cons, quote1]
    split <;> simp only [List.length_cons, List.length_nil] <;> omega
theorem quoteL_append (a b : List UInt8) : quoteL (a ++ b) = quoteL a ++ quoteL b := by simp [quoteL]
theorem take_snoc (s : ByteArray) (k : Nat) (h : k < s.size) : s.data.toList.take (k + 1) = s.data.toList.take k ++ [s[k]] := by
  rw [List.take_succ_eq_append_getElem (by simpa using h)]; rfl
theorem take_all (s : ByteArray) (k : Nat) (h : s.size ≤ k) : s.data.toList.take k = s.data.toList := by
  rw [List.take_of_length_le]; simpa using h
theorem quote_snoc (l : List UInt8) (c : UInt8) : quoteL (l ++ [c]) = quoteL l ++ quote1 c := by simp [quoteL]
theorem bytes_eta (s : ByteArray) : (⟨s.data.toList.toArray⟩ : ByteArray) = s := by cases s; simp
theorem asciiL_at (s : ByteArray) (h : asciiL s.data.toList = true) (k : Nat) (hk : k < s.size) : (s[k]'hk).toNat < 128 := by
  have h1 : s[k] ∈ s.data.toList := by
    have : s[k] = s.data.toList[k]'(by simpa using hk) := by simp; rfl
    rw [this]; exact List.getElem_mem _
  have := List.all_eq_true.1 h _ h1
  simp at this; omega
theorem quoted_no {c : UInt8} (h1 : ((c.toNat : Int) == 42) = false) (h2 : ((c.toNat : Int) == 63) = false) (h3 : ((c.toNat : Int) == 91) = false) (h4 : ((c.toNat : Int) == 92) = false) : quotedB c = false := by
  have h1 := ne_of (n := 42) h1
  have h2 := ne_of (n := 63) h2
  have h3 := ne_of (n := 91) h3
  have h4 := ne_of (n := 92) h4
  simp [quotedB, h1, h2, h3, h4]
theorem quoted_42 {c : UInt8} (h : ((c.toNat : Int) == 42) = true) : quotedB c = true := by
  have h := eq_of (n := 42) h
  simp [quotedB, h]
theorem quoted_63 {c : UInt8} (h : ((c.toNat : Int) == 63) = true) : quotedB c = true := by
  have h := eq_of (n := 63) h
  simp [quotedB, h]
theorem quoted_91 {c : UInt8} (h : ((c.toNat : Int) == 91) = true) : quotedB c = true := by
  have h := eq_of (n := 91) h
  simp [quotedB, h]
theorem quoted_92 {c : UInt8} (h : ((c.toNat : Int) == 92) = true) : quotedB c = true := by
  have h := eq_of (n := 92) h
  simp [quotedB, h]
theorem quoted_cases (c : UInt8) : (((c.toNat : Int) == 42) = false ∧ ((c.toNat : Int) == 63) = false ∧ ((c.toNat : Int) == 91) = false ∧ ((c.toNat : Int) == 92) = false) ∨ (((c.toNat : Int) == 42) = true) ∨ (((c.toNat : Int) == 42) = false ∧ ((c.toNat : Int) == 63) = true) ∨ (((c.toNat : Int) == 42) = false ∧ ((c.toNat : Int) == 63) = false ∧ ((c.toNat : Int) == 91) = true) ∨ (((c.toNat : Int) == 42) = false ∧ ((c.toNat : Int) == 63) = false ∧ ((c.toNat : Int) == 91) = false ∧ ((c.toNat : Int) == 92) = true) := by
  cases ((c.toNat : Int) == 42) <;> cases ((c.toNat : Int) == 63) <;> cases ((c.toNat : Int) == 91) <;> cases ((c.toNat : Int) == 92) <;> simp
/-- Unquoted: the state is whether the byte stands behind a backslash -/
def unqE : Bool → List UInt8 → Option (List UInt8)
  | false, [] => some []
  | true, [] => none
  | true, d :: r => (unqE false r).map (d :: ·)
  | false, c :: r =>
    if c.toNat = 42 ∨ c.toNat = 63 ∨ c.toNat = 91 then none
    else if c.toNat = 92 then unqE true r
    else (unqE false r).map (c :: ·)
def unqT (l : List UInt8) : List UInt8 := (unqE false l).getD []
def unqB (l : List UInt8) : Bool := (unqE false l).isSome
theorem unq_bad {c : UInt8} {r : List UInt8} (h : c.toNat = 42 ∨ c.toNat = 63 ∨ c.toNat = 91) : unqE false (c :: r) = none := by simp [unqE, h]
theorem unq_bad42 {c : UInt8} {r : List UInt8} (h : ((c.toNat : Int) == 42) = true) : unqE false (c :: r) = none := unq_bad (.inl (eq_of (n := 42) h))
theorem unq_bad63 {c : UInt8} {r : List UInt8} (h : ((c.toNat : Int) == 63) = true) : unqE false (c :: r) = none := unq_bad (.inr (.inl (eq_of (n := 63) h)))
theorem unq_bad91 {c : UInt8} {r : List UInt8} (h : ((c.toNat : Int) == 91) = true) : unqE false (c :: r) = none := unq_bad (.inr (.inr (eq_of (n := 91) h)))
theorem unq_esc {c d : UInt8} {r : List UInt8} (h : ((c.toNat : Int) == 92) = true) : unqE false (c :: d :: r) = (unqE false r).map (d :: ·) := by
  have h := eq_of (n := 92) h
  simp [unqE, h]
theorem unq_esc_end {c : UInt8} (h : ((c.toNat : Int) == 92) = true) : unqE false [c] = none := by
  have h := eq_of (n := 92) h
  simp [unqE, h]
theorem unq_other {c : UInt8} {r : List UInt8} (h1 : ((c.toNat : Int) == 42) = false) (h2 : ((c.toNat : Int) == 63) = false) (h3 : ((c.toNat : Int) == 91) = false) (h4 : ((c.toNat : Int) == 92) = false) : unqE false (c :: r) = (unqE false r).map (c :: ·) := by
  have h1 := ne_of (n := 42) h1
  have h2 := ne_of (n := 63) h2
  have h3 := ne_of (n := 91) h3
  have h4 := ne_of (n := 92) h4
  simp [unqE, h1, h2, h3, h4]
theorem map_step (o : Option (List UInt8)) (a : List UInt8) (c : UInt8) : (o.map (c :: ·)).map (a ++ ·) = o.map ((a ++ [c]) ++ ·) := by
  cases o <;> simp
theorem extract_one (s : ByteArray) (k : Nat) (h : k < s.size) : (s.extract k (k + 1)).data.toList = [s[k]] := by
  have h' : k < s.data.size := h
  rw [ByteArray.data_extract, Array.toList_extract, List.extract_eq_take_drop]
  rw [show k + 1 - k = 1 from by omega, List.drop_eq_getElem_cons (by simpa using h')]
  simp; rfl
theorem extract_one_size (s : ByteArray) (k : Nat) (h : k < s.size) : (s.extract k (k + 1)).size = 1 := by
  rw [ByteArray.size_extract]; omega
theorem unq_quote : ∀ l : List UInt8, unqE false (quoteL l) = some l
  | [] => rfl
  | c :: r => by
    have h := unq_quote r
    simp only [quoteL] at h
    rcases quoted_cases c with ⟨k1, k2, k3, k4⟩ | k1 | ⟨k1, k2⟩ | ⟨k1, k2, k3⟩ | ⟨k1, k2, k3, k4⟩
    · simp only [quoteL, List.flatMap_cons, quote1, quoted_no k1 k2 k3 k4]
      simp [unq_other k1 k2 k3 k4, h]
    · simp only [quoteL, List.flatMap_cons, quote1, quoted_42 k1]
      simp [unqE, h]
    · simp only [quoteL, List.flatMap_cons, quote1, quoted_63 k2]
      simp [unqE, h]
    · simp only [quoteL, List.flatMap_cons, quote1, quoted_91 k3]
      simp [unqE, h]
    · simp only [quoteL, List.flatMap_cons, quote1, quoted_92 k4]
      simp [unqE, h]
theorem meta_quote : ∀ l : List UInt8, metaL false (quoteL l) = false
  | [] => rfl
  | c :: r => by
    have h := meta_quote r
    simp only [quoteL, metaL] at h
    rcases quoted_cases c with ⟨k1, k2, k3, k4⟩ | k1 | ⟨k1, k2⟩ | ⟨k1, k2, k3⟩ | ⟨k1, k2, k3, k4⟩
    · have h1 := ne_of (n := 42) k1
      have h2 := ne_of (n := 63) k2
      have h3 := ne_of (n := 91) k3
      have h4 := ne_of (n := 92) k4
      simp only [quoteL, List.flatMap_cons, quote1, quoted_no k1 k2 k3 k4]
      simp [metaL, metaE, h1, h2, h3, h4, h]
    · simp only [quoteL, List.flatMap_cons, quote1, quoted_42 k1]
      simp [metaL, metaE, h]
    · simp only [quoteL, List.flatMap_cons, quote1, quoted_63 k2]
      simp [metaL, metaE, h]
    · simp only [quoteL, List.flatMap_cons, quote1, quoted_91 k3]
      simp [metaL, metaE, h]
    · simp only [quoteL, List.flatMap_cons, quote1, quoted_92 k4]
      simp [metaL, metaE, h]
theorem ascii_quote : ∀ l : List UInt8, asciiL l = true → asciiL (quoteL l) = true
  | [], _ => rfl
  | c :: r, h => by
    have h' : c.toNat ≤ 127 ∧ asciiL r = true := by simpa [asciiL] using h
    have h2 := ascii_quote r h'.2
    simp only [quoteL, asciiL] at h2
    simp only [quoteL, List.flatMap_cons, asciiL, List.all_append, h2, quote1]
    split <;> simp [h'.1]
theorem word_not_quoted {c : UInt8} (h : wordI c.toNat = true) : quotedB c = false := by
  have := word_range h
  simp [quotedB]; omega
theorem word_quote (l : List UInt8) (h : wordL l = true) : quoteL l = l :=
  quoteL_plain l fun c hc => word_not_quoted (List.all_eq_true.1 h c hc)
theorem word_ascii (l : List UInt8) (h : wordL l = true) : asciiL l = true :=
  List.all_eq_true.2 fun c hc => by
    have := word_range (n := c.toNat) (List.all_eq_true.1 h c hc)
    simp; omega
theorem size_mk (l : List UInt8) : (ByteArray.mk l.toArray).size = l.length := by simp [ByteArray.size]
theorem data_mk (l : List UInt8) : (ByteArray.mk l.toArray).data.toList = l := by simp
theorem size_toList (s : ByteArray) : s.data.toList.length = s.size := by rw [Array.length_toList]; rfl
theorem mk_app (a b : List UInt8) : (ByteArray.mk (a ++ b).toArray) = ByteArray.mk a.toArray ++ ByteArray.mk b.toArray := by
  apply ByteArray.ext; simp [ByteArray.data_append]
theorem size_mid (a b : ByteArray) (l : Array UInt8) (h : a.size ≤ 2147483647) (h2 : b.size ≤ 2147483647) (h3 : l.size ≤ 2) : (a ++ ⟨l⟩ ++ b).size < 9223372036854775806 := by
  have h4 : (ByteArray.mk l).size ≤ 2 := h3
  simp only [ByteArray.size_append]
  omega
end Go.Proofs.YtmgdljhamplgiaaDoor.Pat
