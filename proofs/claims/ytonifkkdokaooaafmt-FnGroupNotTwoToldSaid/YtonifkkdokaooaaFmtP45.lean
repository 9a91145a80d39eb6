/- Joined by pack.py: PlR, PlW, PlT, Txt, PlS, PlG, PlX. -/
import Derived.Test.YtonifkkdokaooaaFmtP01
import Derived.Test.YtonifkkdokaooaaFmtP39
import Derived.Test.YtonifkkdokaooaaFmtP10
import Derived.Test.YtonifkkdokaooaaFmtP05
/- PLAIN: what simple regular expressions match. No program stands here. -/
namespace Go.Proofs.YtonifkkdokaooaaFmt.Re
set_option linter.unusedVariables false

/-- what things one behind the other match -/
def sq (s : List UInt8) (g : G) (f d : Bool) (i j : Nat) : Prop := (rel s (ms g f d).1).seq i j
def noBar : G → Prop
  | .done => True
  | .bar _ => False
  | .ato _ _ r => noBar r
  | .grp _ _ r => noBar r
  | .flg _ _ r => noBar r
theorem noBar_nil : ∀ (g : G) (f d : Bool), noBar g → (ms g f d).2 = .nil
  | .done, _, _, _ => rfl
  | .bar _, _, _, h => h.elim
  | .ato _ _ r, f, d, h => noBar_nil r f d h
  | .grp _ _ r, f, d, h => noBar_nil r f d h
  | .flg i u r, f, d, h => noBar_nil r (f || i) true h
theorem alt_lists (s : List UInt8) (g : G) (f d : Bool) (i j : Nat) (h : noBar g) : (rel s (lists g f d)).alt i j ↔ sq s g f d i j := by
  simp only [lists, rel, noBar_nil g f d h, or_false]
  exact Iff.rfl
theorem alt_bar (s : List UInt8) (g r : G) (f d : Bool) (i j : Nat) : (rel s (lists (.bar r) f d)).alt i j ↔ i = j ∨ (rel s (lists r f d)).alt i j := Iff.rfl
theorem sq_done (s : List UInt8) (f d : Bool) (i j : Nat) : sq s .done f d i j ↔ i = j := Iff.rfl
theorem sq_flg (s : List UInt8) (a u : Bool) (r : G) (f d : Bool) (i j : Nat) : sq s (.flg a u r) f d i j ↔ sq s r (f || a) true i j := by
  constructor
  · rintro ⟨t, h, h2⟩
    cases (show i = t from h)
    exact h2
  · intro h
    exact ⟨i, (rfl : i = i), h⟩
theorem sq_beg (s : List UInt8) (r : G) (f d : Bool) (i j : Nat) : sq s (.ato .beg .one r) f d i j ↔ i = 0 ∧ sq s r f d 0 j := by
  constructor
  · rintro ⟨t, h, h2⟩
    obtain ⟨rfl, rfl⟩ := (show i = 0 ∧ t = 0 from h)
    exact ⟨rfl, h2⟩
  · rintro ⟨rfl, h⟩
    exact ⟨0, (⟨rfl, rfl⟩ : (0 : Nat) = 0 ∧ (0 : Nat) = 0), h⟩
theorem sq_fin (s : List UInt8) (r : G) (f d : Bool) (i j : Nat) : sq s (.ato .fin .one r) f d i j ↔ i = s.length ∧ sq s r f d s.length j := by
  constructor
  · rintro ⟨t, h, h2⟩
    obtain ⟨rfl, rfl⟩ := (show i = s.length ∧ t = s.length from h)
    exact ⟨rfl, h2⟩
  · rintro ⟨rfl, h⟩
    exact ⟨s.length, (⟨rfl, rfl⟩ : s.length = s.length ∧ s.length = s.length), h⟩
theorem setL_get (p : Nat → Bool) (f n : Bool) (x : Nat) (h : x < 128) : (setL p f n).getD x false = ((p x || (f && p (oth x))) != n) := by
  simp [setL, h]
theorem sq_set (s : List UInt8) (a : Ato) (r : G) (f d : Bool) (i j : Nat) (h1 : (ndA f d a).1 = 1) : sq s (.ato a .one r) f d i j ↔ (∃ c, s[i]? = some c ∧ c.toNat < 128 ∧ (ndA f d a).2.getD c.toNat false = true) ∧ sq s r f d (i + 1) j := by
  have e : sq s (.ato a .one r) f d i j ↔ ∃ t, nodeR s (ndA f d a).1 (ndA f d a).2 (rel s .nil) 0 0 i t ∧ sq s r f d t j := Iff.rfl
  rw [e, h1]
  constructor
  · rintro ⟨t, h, h2⟩
    obtain ⟨rfl, hc⟩ := (show setR s (ndA f d a).2 i t from h)
    exact ⟨hc, h2⟩
  · rintro ⟨hc, h⟩
    exact ⟨i + 1, (⟨rfl, hc⟩ : setR s (ndA f d a).2 i (i + 1)), h⟩
/-- any bytes below 128 -/
def asc (s : List UInt8) : Prop := ∀ c ∈ s, c.toNat < 128
theorem sq_dot (s : List UInt8) (hs : asc s) (r : G) (f : Bool) (i j : Nat) : sq s (.ato .dot .one r) f true i j ↔ i < s.length ∧ sq s r f true (i + 1) j := by
  rw [sq_set s .dot r f true i j rfl]
  constructor
  · rintro ⟨⟨c, h1, _, _⟩, h⟩
    exact ⟨(List.getElem?_eq_some_iff.1 h1).1, h⟩
  · rintro ⟨h1, h⟩
    have hc := hs s[i] (List.getElem_mem h1)
    refine ⟨⟨s[i], List.getElem?_eq_getElem h1, hc, ?_⟩, h⟩
    show (setL (fun x => true || x != 10) false false).getD s[i].toNat false = true
    rw [setL_get _ _ _ _ hc]; rfl
theorem pow_dot (s : List UInt8) (hs : asc s) (set : List Bool) (hset : ∀ x, x < 128 → set.getD x false = true) : ∀ n i t, pow (setR s set) n i t ↔ t = i + n ∧ (n = 0 ∨ t ≤ s.length)
  | 0, i, t => by
    constructor
    · intro h; cases (show i = t from h); exact ⟨rfl, .inl rfl⟩
    · rintro ⟨h, _⟩; exact h.symm
  | n + 1, i, t => by
    constructor
    · rintro ⟨k, ⟨rfl, c, hc, _, _⟩, h2⟩
      have hi := (List.getElem?_eq_some_iff.1 hc).1
      obtain ⟨rfl, h3⟩ := (pow_dot s hs set hset n (i + 1) t).1 h2
      exact ⟨by omega, .inr (by omega)⟩
    · rintro ⟨rfl, h3⟩
      have hi : i < s.length := by omega
      refine ⟨i + 1, ⟨rfl, s[i], List.getElem?_eq_getElem hi, hs _ (List.getElem_mem hi), hset _ (hs _ (List.getElem_mem hi))⟩, (pow_dot s hs set hset n (i + 1) _).2 ⟨by omega, .inr (by omega)⟩⟩
theorem sq_dotstar (s : List UInt8) (hs : asc s) (r : G) (f : Bool) (i j : Nat) (hi : i ≤ s.length) : sq s (.ato .dot .star r) f true i j ↔ ∃ t, i ≤ t ∧ t ≤ s.length ∧ sq s r f true t j := by
  have e : sq s (.ato .dot .star r) f true i j ↔ ∃ t, timesR (setR s (setL (fun x => true || x != 10) false false)) 0 (-1) i t ∧ sq s r f true t j := Iff.rfl
  rw [e]
  have hset : ∀ x, x < 128 → (setL (fun x => true || x != 10) false false).getD x false = true := fun x hx => by rw [setL_get _ _ _ _ hx]; rfl
  constructor
  · rintro ⟨t, ⟨n, _, _, hp⟩, h⟩
    obtain ⟨rfl, h3⟩ := (pow_dot s hs _ hset n i t).1 hp
    exact ⟨i + n, by omega, by omega, h⟩
  · rintro ⟨t, h1, h2, h⟩
    exact ⟨t, ⟨t - i, by omega, .inl (by omega), (pow_dot s hs _ hset _ i t).2 ⟨by omega, .inr h2⟩⟩, h⟩
/-- bytes as they are, one behind the other -/
def gl : List Nat → G → G
  | [], r => r
  | c :: l, r => .ato (.lit c) .one (gl l r)
theorem gl_noBar : ∀ (l : List Nat) (r : G), noBar r → noBar (gl l r)
  | [], _, h => h
  | _ :: l, r, h => gl_noBar l r h
theorem gl_ok : ∀ (l : List Nat) (r : G), (∀ c ∈ l, litOk c = true) → r.ok = true → (gl l r).ok = true
  | [], _, _, h => h
  | c :: l, r, hl, h => by
    simp only [gl, G.ok, Ato.ok, hl c (by simp), Bool.true_and]
    exact gl_ok l r (fun d hd => hl d (by simp [hd])) h
theorem pr_gl : ∀ (l : List Nat) (r : G), pr (gl l r) = l ++ pr r
  | [], _ => rfl
  | c :: l, r => by simp [gl, pr, prA, prS, pr_gl l r]
theorem sq_lit (s : List UInt8) (c : Nat) (hc : c < 128) (r : G) (d : Bool) (i j : Nat) : sq s (.ato (.lit c) .one r) false d i j ↔ s[i]? = some (UInt8.ofNat c) ∧ sq s r false d (i + 1) j := by
  rw [sq_set s (.lit c) r false d i j rfl]
  refine and_congr_left fun _ => ?_
  constructor
  · rintro ⟨b, h1, h2, h3⟩
    have h4 : (setL (fun x => x == c) false false).getD b.toNat false = true := h3
    rw [setL_get _ _ _ _ h2] at h4
    simp at h4
    rw [h1, ← h4]; simp
  · intro h
    refine ⟨_, h, by simp; omega, ?_⟩
    show (setL (fun x => x == c) false false).getD (UInt8.ofNat c).toNat false = true
    have e : (UInt8.ofNat c).toNat = c := by simp; omega
    rw [e, setL_get _ _ _ _ hc]; simp
theorem sq_lit_pos (s : List UInt8) (c : Nat) (hc : c < 128) (r : G) (f d : Bool) (i j : Nat) (h : s[i]? = some (UInt8.ofNat c)) (h2 : sq s r f d (i + 1) j) : sq s (.ato (.lit c) .one r) f d i j := by
  rw [sq_set s (.lit c) r f d i j rfl]
  refine ⟨⟨_, h, by simp; omega, ?_⟩, h2⟩
  show (setL (fun x => x == c) f false).getD (UInt8.ofNat c).toNat false = true
  have e : (UInt8.ofNat c).toNat = c := by simp; omega
  rw [e, setL_get _ _ _ _ hc]; simp
theorem sq_gl (s : List UInt8) (d : Bool) : ∀ (l : List Nat) (r : G) (i j : Nat), (∀ c ∈ l, c < 128) → (sq s (gl l r) false d i j ↔ (s.drop i).take l.length = l.map UInt8.ofNat ∧ sq s r false d (i + l.length) j)
  | [], r, i, j, _ => by simp [gl]
  | c :: l, r, i, j, h => by
    rw [gl, sq_lit s c (h c (by simp)), sq_gl s d l r (i + 1) j (fun x hx => h x (by simp [hx]))]
    have e1 : i + 1 + l.length = i + (c :: l).length := by simp; omega
    rw [e1, ← and_assoc]
    refine and_congr_left fun _ => ?_
    rcases Nat.lt_or_ge i s.length with hi | hi
    · rw [List.getElem?_eq_getElem hi, List.drop_eq_getElem_cons hi]
      simp only [List.length_cons, List.take_succ_cons, List.map_cons, List.cons.injEq, Option.some.injEq]
    · rw [List.getElem?_eq_none hi, List.drop_eq_nil_of_le hi]
      simp
theorem sq_gl_pos (s : List UInt8) (f d : Bool) : ∀ (l : List Nat) (r : G) (i j : Nat), (∀ c ∈ l, c < 128) → (s.drop i).take l.length = l.map UInt8.ofNat → sq s r f d (i + l.length) j → sq s (gl l r) f d i j
  | [], r, i, j, _, _, h => h
  | c :: l, r, i, j, h, h1, h2 => by
    rcases Nat.lt_or_ge i s.length with hi | hi
    · rw [List.drop_eq_getElem_cons hi] at h1
      simp only [List.length_cons, List.take_succ_cons, List.map_cons, List.cons.injEq] at h1
      refine sq_lit_pos s c (h c (by simp)) _ f d i j (by rw [List.getElem?_eq_getElem hi, h1.1]) (sq_gl_pos s f d l r (i + 1) j (fun x hx => h x (by simp [hx])) h1.2 ?_)
      have e1 : i + 1 + l.length = i + (c :: l).length := by simp; omega
      rw [e1]; exact h2
    · rw [List.drop_eq_nil_of_le hi] at h1
      simp at h1
/-- a pair of brackets -/
theorem sq_grp (s : List UInt8) (g r : G) (f d : Bool) (i j : Nat) : sq s (.grp g .one r) f d i j ↔ ∃ t, (rel s (lists g f d)).alt i t ∧ sq s r f d t j := Iff.rfl
theorem sq_grp_star (s : List UInt8) (g r : G) (f d : Bool) (i j : Nat) : sq s (.grp g .star r) f d i j ↔ ∃ t, timesR (rel s (lists g f d)).alt 0 (-1) i t ∧ sq s r f d t j := Iff.rfl
theorem sq_grp_plus (s : List UInt8) (g r : G) (f d : Bool) (i j : Nat) : sq s (.grp g .plus r) f d i j ↔ ∃ t, timesR (rel s (lists g f d)).alt 1 (-1) i t ∧ sq s r f d t j := Iff.rfl
theorem sq_grp_opt (s : List UInt8) (g r : G) (f d : Bool) (i j : Nat) : sq s (.grp g .opt r) f d i j ↔ ∃ t, timesR (rel s (lists g f d)).alt 0 1 i t ∧ sq s r f d t j := Iff.rfl
/-- Found for a text's tree -/
def fnd (s : List UInt8) (g : G) : Bool := foundE s 3 no128 (lists g false false) 0 0
theorem fnd_iff (s : List UInt8) (g : G) (h : noBar g) : fnd s g = true ↔ ∃ i j, i ≤ s.length ∧ sq s g false false i j := by
  unfold fnd
  rw [found_iff s _ (lists_tame g false false)]
  simp only [alt_lists s g false false _ _ h]
end Go.Proofs.YtonifkkdokaooaaFmt.Re

/- PLAIN: what Regexp writes for a pattern without brackets and backslashes, read as data. No program stands here. -/
namespace Go.Proofs.YtonifkkdokaooaaFmt
open Go.RowKit Go.Extern
open Re (G Ato Su gl sq)
set_option linter.unusedVariables false

theorem dec_at (s : ByteArray) (i : Nat) (hi : i < s.size) (h : (s[i]).toNat < 128) : Utf8.decode s i = ((s[i]).toNat, 1) := by
  have e : s.get! (i + 0) = s[i] := by
    rw [Nat.add_zero]
    show s.data[i]! = _
    have : i < s.data.size := hi
    rw [getElem!_pos s.data i this]
    rfl
  unfold Utf8.decode
  simp only [e]
  rw [if_pos h]
theorem nx_at (s : ByteArray) (i : Nat) (hi : i < s.size) (h : (s[i]).toNat < 128) : nx s i = ((s[i]).toNat, i + 1) := by
  unfold nx
  rw [if_pos hi, dec_at s i hi h]
theorem nx_end (s : ByteArray) (i : Nat) (hi : s.size ≤ i) : nx s i = (0, i) := by
  unfold nx
  rw [if_neg (by omega)]
/-- a byte of such a pattern, in a mode -/
def pcOk (md : Md) (c : Nat) : Bool := decide (1 ≤ c) && decide (c < 128) && c != 91 && c != 92 && (!md.fil || (c != 42 && c != 63))
/-- what is written for it -/
def pcW (c : Nat) : List Nat := if c = 42 then [46, 42] else if c = 63 then [46] else if reMeta c then [92, c] else [c]
theorem rq1_small (c : Nat) (h : c < 128) : rq [UInt8.ofNat c] = bs (if reMeta c then [92, c] else [c]) := by
  have e : (UInt8.ofNat c).toNat = c := by simp; omega
  simp only [rq, rq1, List.flatMap_cons, List.flatMap_nil, List.append_nil, e]
  split <;> simp [bs]
theorem rest_plain (md : Md) (s : ByteArray) (c i : Nat) (h : pcOk md c = true) : rest md s c i = ⟨0, 0, i, bs (pcW c)⟩ := by
  simp only [pcOk, Bool.and_eq_true, decide_eq_true_eq, bne_iff_ne, ne_eq, Bool.or_eq_true, Bool.not_eq_true'] at h
  obtain ⟨⟨⟨⟨h1, h2⟩, h3⟩, h4⟩, h5⟩ := h
  unfold rest
  rw [if_neg (by omega)]
  by_cases e1 : c = 42
  · subst e1
    have hf : md.fil = false := by rcases h5 with h5 | h5; exact h5; exact absurd rfl h5.1
    rw [if_pos rfl]
    simp [star, hf, dotstar, pcW, bs]
  · rw [if_neg e1]
    by_cases e2 : c = 63
    · subst e2
      have hf : md.fil = false := by rcases h5 with h5 | h5; exact h5; exact absurd rfl h5.2
      rw [if_pos rfl]
      simp [hf, pcW, bs]
    · rw [if_neg e2, if_neg h4, if_neg h3, if_neg (by omega), en_small c h2, rq1_small c h2]
      simp [pcW, e1, e2]
/-- the bytes of a text -/
def nums (s : ByteArray) : List Nat := s.data.toList.map UInt8.toNat
theorem nums_len (s : ByteArray) : (nums s).length = s.size := by simp [nums]
theorem nums_drop (s : ByteArray) (i : Nat) (hi : i < s.size) : (nums s).drop i = (s[i]).toNat :: (nums s).drop (i + 1) := by
  rw [List.drop_eq_getElem_cons (by rw [nums_len]; exact hi)]
  simp [nums, ByteArray.getElem_eq_getElem_data]
theorem bs_nums (s : ByteArray) : bs (nums s) = s.data.toList := by
  simp [bs, nums, Function.comp_def]
theorem next_plain (md : Md) (hx : md.ext = false) (s : ByteArray) (f i : Nat) (hi : i < s.size) (h : pcOk md (s[i]).toNat = true) : next md s (f + 1) i = ⟨0, 0, i + 1, bs (pcW (s[i]).toNat)⟩ := by
  have h2 : (s[i]).toNat < 128 := by simp [pcOk] at h; omega
  unfold next
  rw [hx, nx_at s i hi h2]
  simp only [Bool.false_and, Bool.false_eq_true, if_false]
  exact rest_plain md s _ _ h
theorem next_end (md : Md) (hx : md.ext = false) (s : ByteArray) (f i : Nat) (hi : s.size ≤ i) : (next md s (f + 1) i).err = 1 := by
  unfold next
  rw [hx, nx_end s i hi]
  simp [rest]
theorem loop_plain (md : Md) (hx : md.ext = false) (s : ByteArray) (h : ∀ c ∈ nums s, pcOk md c = true) : ∀ (n f i : Nat) (acc : List UInt8), i + n = s.size → n < f → loopR md s f i acc [] = .done (acc ++ bs (((nums s).drop i).flatMap pcW)) []
  | 0, f + 1, i, acc, hi, _ => by
    unfold loopR
    rw [if_pos (next_end md hx s s.size i (by omega)), List.drop_of_length_le (by rw [nums_len]; omega)]
    simp [bs]
  | n + 1, f + 1, i, acc, hi, hf => by
    have hi2 : i < s.size := by omega
    have hc : pcOk md (s[i]).toNat = true := h _ (by
      have : (s[i]).toNat ∈ (nums s).drop i := by rw [nums_drop s i hi2]; simp
      exact List.mem_of_mem_drop this)
    unfold loopR
    rw [next_plain md hx s s.size i hi2 hc]
    simp only [if_true, show ¬ (0 : Nat) = 1 from by omega, if_false]
    rw [loop_plain md hx s h n f (i + 1) _ (by omega) (by omega), nums_drop s i hi2]
    simp [bs]
/-- the pattern as data -/
def gp : List Nat → G → G
  | [], r => r
  | c :: l, r => if c = 42 then .ato .dot .star (gp l r) else if c = 63 then .ato .dot .one (gp l r) else if reMeta c then .ato (.esc c) .one (gp l r) else .ato (.lit c) .one (gp l r)
theorem pr_gp : ∀ (l : List Nat) (r : G), Re.pr (gp l r) = l.flatMap pcW ++ Re.pr r
  | [], r => rfl
  | c :: l, r => by
    simp only [gp, List.flatMap_cons, pcW]
    split
    · simp [Re.pr, Re.prA, Re.prS, pr_gp l r]
    · split
      · simp [Re.pr, Re.prA, Re.prS, pr_gp l r]
      · split <;> simp [Re.pr, Re.prA, Re.prS, pr_gp l r]
theorem lit_of (c : Nat) (h : c < 128) (hm : reMeta c = false) : Re.litOk c = true := by
  have : ∀ c, c < 128 → reMeta c = false → Re.litOk c = true := by decide
  exact this c h hm
theorem esc_of (c : Nat) (h : c < 128) (hm : reMeta c = true) : Re.escOk c = true := by
  have : ∀ c, c < 128 → reMeta c = true → Re.escOk c = true := by decide
  exact this c h hm
theorem gp_ok : ∀ (l : List Nat) (r : G), (∀ c ∈ l, c < 128) → r.ok = true → (gp l r).ok = true
  | [], r, _, h => h
  | c :: l, r, hl, h => by
    have ih := gp_ok l r (fun d hd => hl d (by simp [hd])) h
    have hc := hl c (by simp)
    simp only [gp]
    split
    · simp [Re.G.ok, Re.Ato.ok, ih]
    · split
      · simp [Re.G.ok, Re.Ato.ok, ih]
      · split
        · rename_i hm; simp [Re.G.ok, Re.Ato.ok, ih, esc_of c hc hm]
        · rename_i hm; simp [Re.G.ok, Re.Ato.ok, ih, lit_of c hc (by simpa using hm)]
theorem gp_noBar : ∀ (l : List Nat) (r : G), Re.noBar r → Re.noBar (gp l r)
  | [], _, h => h
  | c :: l, r, h => by
    simp only [gp]
    split
    · exact gp_noBar l r h
    · split
      · exact gp_noBar l r h
      · split <;> exact gp_noBar l r h
theorem gp_noC : ∀ (l : List Nat) (r : G), noC r = true → noC (gp l r) = true
  | [], _, h => h
  | c :: l, r, h => by
    simp only [gp]
    split
    · simp [noC, gp_noC l r h]
    · split
      · simp [noC, gp_noC l r h]
      · split <;> simp [noC, gp_noC l r h]
/-- the whole text as data, behind the flags -/
def gAll (ent nc sho : Bool) (l : List Nat) : G := .flg nc sho (if ent then .ato .beg .one (gp l (.ato .fin .one .done)) else gp l .done)
theorem pr_all (ent nc sho : Bool) (l : List Nat) : bs (Re.pr (gAll ent nc sho l)) = hdr ent nc sho ++ bs (l.flatMap pcW) ++ (if ent then [36] else []) := by
  cases ent <;> cases nc <;> cases sho <;> simp [gAll, Re.pr, Re.prF, Re.prA, Re.prS, pr_gp, hdr, bs]
theorem reg_plain (md : Md) (hx : md.ext = false) (ent nc sho : Bool) (s : ByteArray) (h : ∀ c ∈ nums s, pcOk md c = true) (hsc : (ent || nc) = true ∨ shc s (s.size + 1) 0 = true) :
    regexpM md ent nc sho s = .ok (bs (Re.pr (gAll ent nc sho (nums s)))) := by
  unfold regexpM
  rw [if_neg (by rintro ⟨h1, h2⟩; rcases hsc with h3 | h3; rw [h1] at h3; cases h3; rw [h2] at h3; cases h3)]
  rw [loop_plain md hx s h s.size (s.size + 1) 0 _ (by omega) (by omega), pr_all]
  simp [rOut]
end Go.Proofs.YtonifkkdokaooaaFmt

/- PLAIN: what the regular expressions of words, of the star, of question marks match. No program stands here. -/
namespace Go.Proofs.YtonifkkdokaooaaFmt
open Re (G Ato Su gl sq fnd)
set_option linter.unusedVariables false

def litC (c : Nat) : Prop := c < 128 ∧ c ≠ 42 ∧ c ≠ 63
theorem sq_esc (s : List UInt8) (c : Nat) (r : G) (f d : Bool) (i j : Nat) : sq s (.ato (.esc c) .one r) f d i j ↔ sq s (.ato (.lit c) .one r) f d i j := Iff.rfl
theorem sq_ato_congr (s : List UInt8) (a : Ato) (q : Su) (r r' : G) (f d : Bool) (h : ∀ i j, sq s r f d i j ↔ sq s r' f d i j) (i j : Nat) : sq s (.ato a q r) f d i j ↔ sq s (.ato a q r') f d i j := by
  have e : ∀ (r : G) , sq s (.ato a q r) f d i j = (Re.rel s (Re.sfx q (Re.ndA f d a).1 (Re.ndA f d a).2 .nil (Re.ms r f d).1)).seq i j := fun _ => rfl
  rw [e, e]
  cases q <;> exact exists_congr fun t => and_congr_right fun _ => h t j
/-- letters as they are -/
theorem sq_gp (s : List UInt8) (f d : Bool) : ∀ (l : List Nat) (r : G) (i j : Nat), (∀ c ∈ l, litC c) → (sq s (gp l r) f d i j ↔ sq s (gl l r) f d i j)
  | [], r, i, j, _ => Iff.rfl
  | c :: l, r, i, j, h => by
    have hc := h c (by simp)
    have ih := fun i j => sq_gp s f d l r i j (fun x hx => h x (by simp [hx]))
    simp only [gp, gl, if_neg hc.2.1, if_neg hc.2.2]
    split
    · rw [sq_esc]; exact sq_ato_congr s _ _ _ _ f d ih i j
    · exact sq_ato_congr s _ _ _ _ f d ih i j
/-- the whole text: with and without the ends -/
theorem fnd_ent (s : List UInt8) (nc sho : Bool) (l : List Nat) : fnd s (gAll true nc sho l) = true ↔ ∃ j, sq s (gp l (.ato .fin .one .done)) nc true 0 j := by
  rw [Re.fnd_iff s _ (by exact gp_noBar l _ trivial)]
  constructor
  · rintro ⟨i, j, _, h⟩
    rw [gAll, Re.sq_flg, if_pos rfl, Re.sq_beg, Bool.false_or] at h
    exact ⟨j, h.2⟩
  · rintro ⟨j, h⟩
    refine ⟨0, j, Nat.zero_le _, ?_⟩
    rw [gAll, Re.sq_flg, if_pos rfl, Re.sq_beg, Bool.false_or]
    exact ⟨rfl, h⟩
theorem fnd_part (s : List UInt8) (nc sho : Bool) (l : List Nat) : fnd s (gAll false nc sho l) = true ↔ ∃ i j, i ≤ s.length ∧ sq s (gp l .done) nc true i j := by
  rw [Re.fnd_iff s _ (by exact gp_noBar l _ trivial)]
  constructor
  · rintro ⟨i, j, hi, h⟩
    rw [gAll, Re.sq_flg, Bool.false_or] at h
    exact ⟨i, j, hi, h⟩
  · rintro ⟨i, j, hi, h⟩
    refine ⟨i, j, hi, ?_⟩
    rw [gAll, Re.sq_flg, Bool.false_or]
    exact h
theorem gAll_ok (ent nc sho : Bool) (l : List Nat) (h : ∀ c ∈ l, c < 128) : (gAll ent nc sho l).ok = true ∧ noC (gAll ent nc sho l) = true := by
  cases ent
  · exact ⟨gp_ok l _ h rfl, gp_noC l _ rfl⟩
  · exact ⟨gp_ok l (.ato .fin .one .done) h rfl, gp_noC l (.ato .fin .one .done) rfl⟩
theorem pcW_len (c : Nat) : (pcW c).length ≤ 2 := by unfold pcW; split; simp; split; simp; split <;> simp
theorem flat_len : ∀ l : List Nat, (l.flatMap pcW).length ≤ 2 * l.length
  | [] => by simp
  | c :: l => by
    have h1 := pcW_len c
    have h2 := flat_len l
    simp only [List.flatMap_cons, List.length_append, List.length_cons]
    omega
theorem all_len (ent nc sho : Bool) (l : List Nat) : (Re.pr (gAll ent nc sho l)).length ≤ 2 * l.length + 20 := by
  have h := flat_len l
  cases ent <;> simp only [gAll, Re.pr, pr_gp, Bool.false_eq_true, if_true, if_false] <;> generalize l.flatMap pcW = X at h ⊢ <;> cases nc <;> cases sho <;> simp [Re.prF, Re.prA, Re.prS] <;> omega
theorem bs_lits (l : List Nat) : bs l = l.map UInt8.ofNat := rfl
/-- a text alone is found in itself -/
theorem found_self (ent nc sho : Bool) (l : List Nat) (h : ∀ c ∈ l, litC c) : fnd (bs l) (gAll ent nc sho l) = true := by
  have hl : ∀ c ∈ l, c < 128 := fun c hc => (h c hc).1
  have hlen : (bs l).length = l.length := by simp [bs]
  cases ent
  · rw [fnd_part]
    refine ⟨0, l.length, Nat.zero_le _, (sq_gp _ nc true l _ _ _ h).2 (Re.sq_gl_pos _ nc true l _ _ _ hl (by rw [List.drop_zero, List.take_of_length_le (by simp [bs])]; rfl) ?_)⟩
    rw [Re.sq_done]; omega
  · rw [fnd_ent]
    refine ⟨l.length, (sq_gp _ nc true l _ _ _ h).2 (Re.sq_gl_pos _ nc true l _ _ _ hl (by rw [List.drop_zero, List.take_of_length_le (by simp [bs])]; rfl) ?_)⟩
    rw [Re.sq_fin, Re.sq_done]; omega
theorem found_lits (l : List Nat) (h : ∀ c ∈ l, litC c) : fnd (bs l) (gl l .done) = true := by
  rw [Re.fnd_iff _ _ (Re.gl_noBar l .done trivial)]
  refine ⟨0, l.length, Nat.zero_le _, Re.sq_gl_pos _ false false l _ _ _ (fun c hc => (h c hc).1) (by rw [List.drop_zero, List.take_of_length_le (by simp [bs])]; rfl) ?_⟩
  rw [Re.sq_done]; omega
theorem gl_noC : ∀ (l : List Nat), noC (gl l .done) = true
  | [] => rfl
  | c :: l => by simp [gl, noC, gl_noC l]
theorem gl_noF : ∀ (l : List Nat), noF (gl l .done) = true
  | [] => rfl
  | c :: l => by simp [gl, noF, gl_noF l]
/-- words -/
theorem word_lit (c : Nat) (h : Pat.wordI c = true) : litC c ∧ Re.litOk c = true ∧ ∀ md, pcOk md c = true := by
  have hc : c < 128 := by simp [Pat.wordI, Pat.letterI] at h; omega
  have hs : ∀ c, c < 128 → Pat.wordI (c : Nat) = true → c ≠ 42 ∧ c ≠ 63 ∧ c ≠ 91 ∧ c ≠ 92 ∧ 1 ≤ c ∧ Re.litOk c = true := by decide
  obtain ⟨h1, h2, h3, h4, h5, h6⟩ := hs c hc h
  refine ⟨⟨hc, h1, h2⟩, h6, fun md => ?_⟩
  simp [pcOk, hc, h1, h2, h3, h4, h5]
theorem text_reg (md : Md) (hx : md.ext = false) (ent nc sho : Bool) (s : ByteArray) (hw : Pat.wordL s.data.toList = true) :
    ∃ g : G, regexpM md ent nc sho s = .ok (bs (Re.pr g)) ∧ g.ok = true ∧ noC g = true ∧ fnd s.data.toList g = true ∧ (Re.pr g).length ≤ 2 * s.size + 20 := by
  have hc : ∀ c ∈ nums s, litC c ∧ Re.litOk c = true ∧ ∀ md, pcOk md c = true := by
    intro c hc
    obtain ⟨b, hb, rfl⟩ := List.mem_map.1 hc
    exact word_lit _ (List.all_eq_true.1 hw b hb)
  have hn := nums_len s
  by_cases hsc : (ent || nc) = true ∨ shc s (s.size + 1) 0 = true
  · refine ⟨gAll ent nc sho (nums s), reg_plain md hx ent nc sho s (fun c h => (hc c h).2.2 md) hsc, (gAll_ok ent nc sho _ (fun c h => (hc c h).1.1)).1, (gAll_ok ent nc sho _ (fun c h => (hc c h).1.1)).2, ?_, ?_⟩
    · rw [← bs_nums]; exact found_self ent nc sho _ (fun c h => (hc c h).1)
    · rw [← hn]; exact all_len ent nc sho _
  · have hpr : Re.pr (gl (nums s) .done) = nums s := by rw [Re.pr_gl]; simp [Re.pr]
    refine ⟨gl (nums s) .done, ?_, Re.gl_ok _ _ (fun c h => (hc c h).2.1) rfl, gl_noC _, ?_, ?_⟩
    · unfold regexpM
      rw [if_pos (by constructor <;> (rw [Bool.eq_false_iff]; intro e; exact hsc (by simp [e]))), hpr, bs_nums]
    · rw [← bs_nums]; exact found_lits _ (fun c h => (hc c h).1)
    · rw [hpr, hn]; omega
end Go.Proofs.YtonifkkdokaooaaFmt

/- Walk: TextOk. -/
namespace Go.Proofs.YtonifkkdokaooaaFmt
open Go.ChangeShapes Go.WideShapes Go.ChangeAt Go.RowKit
set_option linter.unusedVariables false

/-- bytes from 32 to 126 -/
def Pat.textQ (l : List UInt8) : Bool := l.all fun c => decide (32 ≤ c.toNat ∧ c.toNat ≤ 126)
end Go.Proofs.YtonifkkdokaooaaFmt

/- PLAIN: the star, question marks. No program stands here. -/
namespace Go.Proofs.YtonifkkdokaooaaFmt
open Re (G Ato Su gl sq fnd)
set_option linter.unusedVariables false

def mdE : Md := ⟨false, false, false, false⟩
theorem moE : Mo 4 mdE := ⟨rfl, rfl, rfl, rfl, rfl⟩
theorem mxE : Mx 4 true false false := ⟨rfl, rfl, rfl, rfl⟩
theorem reg_ent (s : ByteArray) (h : ∀ c ∈ nums s, pcOk mdE c = true) : regexpM mdE true false false s = .ok (bs (Re.pr (gAll true false false (nums s)))) := reg_plain mdE rfl true false false s h (.inl rfl)
theorem star_found (s : List UInt8) (hs : Re.asc s) : fnd s (gAll true false false [42]) = true := by
  rw [fnd_ent]
  refine ⟨s.length, ?_⟩
  show sq s (.ato .dot .star (.ato .fin .one .done)) false true 0 s.length
  rw [Re.sq_dotstar s hs _ _ _ _ (Nat.zero_le _)]
  exact ⟨s.length, Nat.zero_le _, Nat.le_refl _, (Re.sq_fin s _ _ _ _ _).2 ⟨rfl, rfl⟩⟩
theorem sq_any (s : List UInt8) (hs : Re.asc s) (f : Bool) : ∀ (n : Nat) (r : G) (i j : Nat), sq s (gp (List.replicate n 63) r) f true i j ↔ (n = 0 ∨ i + n ≤ s.length) ∧ sq s r f true (i + n) j
  | 0, r, i, j => by simp [gp]
  | n + 1, r, i, j => by
    have e : gp (List.replicate (n + 1) 63) r = .ato .dot .one (gp (List.replicate n 63) r) := by simp [List.replicate_succ, gp]
    rw [e, Re.sq_dot s hs, sq_any s hs f n r (i + 1) j]
    have e2 : i + 1 + n = i + (n + 1) := by omega
    rw [e2, ← and_assoc]
    refine and_congr_left fun _ => ?_
    omega
theorem any_found (s : List UInt8) (hs : Re.asc s) (n : Nat) : fnd s (gAll true false false (List.replicate n 63)) = decide (s.length = n) := by
  rw [Bool.eq_iff_iff, fnd_ent, decide_eq_true_iff]
  simp only [sq_any s hs, Re.sq_fin, Re.sq_done, Nat.zero_add]
  constructor
  · rintro ⟨j, _, h, _⟩; exact h.symm
  · rintro rfl; exact ⟨s.length, by omega, rfl, rfl⟩
theorem textQ_asc (l : List UInt8) (h : Pat.textQ l = true) : Re.asc l := fun c hc => by
  have := List.all_eq_true.1 h c hc
  simp at this
  omega
/-- question marks -/
def qm (n : Nat) : ByteArray := ⟨(List.replicate n (63 : UInt8)).toArray⟩
theorem qm_succ (n : Nat) : qm n ++ ⟨#[63]⟩ = qm (n + 1) := by
  apply ByteArray.ext
  apply Array.ext'
  rw [ByteArray.data_append]
  simp [qm, List.replicate_succ']
theorem qm_size (n : Nat) : (qm n).size = n := by
  show (List.replicate n (63 : UInt8)).toArray.size = n
  simp
theorem nums_qm (n : Nat) : nums (qm n) = List.replicate n 63 := by simp [nums, qm]
end Go.Proofs.YtonifkkdokaooaaFmt

/- PLAIN: signs and brackets where groups are not known. No program stands here. -/
namespace Go.Proofs.YtonifkkdokaooaaFmt
open Re (G Ato Su gl sq fnd)
set_option linter.unusedVariables false

theorem sq_end (s : List UInt8) (Q : List Nat) (h : ∀ c ∈ Q, litC c) (d : Bool) (i : Nat) : (∃ j, sq s (gp Q (.ato .fin .one .done)) false d i j) ↔ (s.drop i).take Q.length = bs Q ∧ i + Q.length = s.length := by
  have hl : ∀ c ∈ Q, c < 128 := fun c hc => (h c hc).1
  constructor
  · rintro ⟨j, hj⟩
    rw [sq_gp s false d Q _ _ _ h, Re.sq_gl s d Q _ _ _ hl, Re.sq_fin] at hj
    exact ⟨hj.1, hj.2.1⟩
  · rintro ⟨h1, h2⟩
    refine ⟨s.length, ?_⟩
    rw [sq_gp s false d Q _ _ _ h, Re.sq_gl s d Q _ _ _ hl, Re.sq_fin]
    exact ⟨h1, h2, rfl⟩
theorem take_all {s : List UInt8} {i n : Nat} (h : i + n = s.length) : (s.drop i).take n = s.drop i := List.take_of_length_le (by simp; omega)
theorem lits_found (s : List UInt8) (Q : List Nat) (h : ∀ c ∈ Q, litC c) : fnd s (gAll true false false Q) = decide (s = bs Q) := by
  rw [Bool.eq_iff_iff, fnd_ent, decide_eq_true_iff, sq_end s Q h true 0]
  constructor
  · rintro ⟨h1, h2⟩
    rw [take_all h2] at h1
    simpa using h1
  · rintro rfl
    have : (bs Q).length = Q.length := by simp [bs]
    exact ⟨by rw [take_all (by omega)]; rfl, by omega⟩
theorem star_lits (s : List UInt8) (hs : Re.asc s) (Q : List Nat) (h : ∀ c ∈ Q, litC c) : fnd s (gAll true false false (42 :: Q)) = decide (Q.length ≤ s.length ∧ s.drop (s.length - Q.length) = bs Q) := by
  rw [Bool.eq_iff_iff, fnd_ent, decide_eq_true_iff]
  have e : ∀ r, gp (42 :: Q) r = .ato .dot .star (gp Q r) := fun _ => rfl
  rw [e]
  simp only [Re.sq_dotstar s hs _ _ _ _ (Nat.zero_le _)]
  constructor
  · rintro ⟨j, t, _, h1, h2⟩
    obtain ⟨h3, h4⟩ := (sq_end s Q h true t).1 ⟨j, h2⟩
    rw [take_all h4] at h3
    refine ⟨by omega, ?_⟩
    rw [show s.length - Q.length = t from by omega]; exact h3
  · rintro ⟨h1, h2⟩
    obtain ⟨j, hj⟩ := (sq_end s Q h true (s.length - Q.length)).2 ⟨by rw [take_all (by omega)]; exact h2, by omega⟩
    exact ⟨j, s.length - Q.length, Nat.zero_le _, by omega, hj⟩
theorem any_lits (s : List UInt8) (hs : Re.asc s) (Q : List Nat) (h : ∀ c ∈ Q, litC c) : fnd s (gAll true false false (63 :: Q)) = decide (s.length = Q.length + 1 ∧ s.drop 1 = bs Q) := by
  rw [Bool.eq_iff_iff, fnd_ent, decide_eq_true_iff]
  have e : ∀ r, gp (63 :: Q) r = .ato .dot .one (gp Q r) := fun _ => rfl
  rw [e]
  simp only [Re.sq_dot s hs]
  constructor
  · rintro ⟨j, h1, h2⟩
    obtain ⟨h3, h4⟩ := (sq_end s Q h true (0 + 1)).1 ⟨j, h2⟩
    rw [take_all h4] at h3
    exact ⟨by omega, h3⟩
  · rintro ⟨h1, h2⟩
    obtain ⟨j, hj⟩ := (sq_end s Q h true (0 + 1)).2 ⟨by rw [take_all (by omega)]; exact h2, by omega⟩
    exact ⟨j, by omega, hj⟩
/-- a word in brackets -/
def parL (l : List Nat) : List Nat := 40 :: (l ++ [41])
theorem parL_lit (l : List Nat) (h : ∀ c ∈ l, litC c) : ∀ c ∈ parL l, litC c := by
  intro c hc
  simp only [parL, List.mem_cons, List.mem_append, List.not_mem_nil, or_false] at hc
  rcases hc with rfl | hc | rfl
  · exact ⟨by omega, by omega, by omega⟩
  · exact h c hc
  · exact ⟨by omega, by omega, by omega⟩
theorem pcOk_lit (c : Nat) (h : litC c) (h1 : 1 ≤ c) (h2 : c ≠ 91) (h3 : c ≠ 92) : pcOk mdE c = true := by
  simp [pcOk, mdE, h.1, h1, h2, h3]
theorem words_lit (s : ByteArray) (hw : Pat.wordL s.data.toList = true) : ∀ c ∈ nums s, litC c ∧ Re.litOk c = true ∧ ∀ md, pcOk md c = true := by
  intro c hc
  obtain ⟨b, hb, rfl⟩ := List.mem_map.1 hc
  exact word_lit _ (List.all_eq_true.1 hw b hb)
end Go.Proofs.YtonifkkdokaooaaFmt

/- PLAIN: a group of a word, where groups are known. No program stands here. -/
namespace Go.Proofs.YtonifkkdokaooaaFmt
open Re (G Ato Su gl sq fnd)
set_option linter.unusedVariables false

def mdX : Md := ⟨true, false, false, false⟩
theorem moX : Mo 68 mdX := ⟨rfl, rfl, rfl, rfl, rfl⟩
theorem mxX : Mx 68 true false false := ⟨rfl, rfl, rfl, rfl⟩
/-- a word's bytes: no sign of a group, no bracket -/
theorem word_more (c : Nat) (h : Pat.wordI c = true) : isOp c = false ∧ c ≠ 41 ∧ c ≠ 124 ∧ c ≠ 0 ∧ c < 128 ∧ pcW c = [c] := by
  have hc : c < 128 := by simp [Pat.wordI, Pat.letterI] at h; omega
  have hs : ∀ c, c < 128 → Pat.wordI (c : Nat) = true → isOp c = false ∧ c ≠ 41 ∧ c ≠ 124 ∧ c ≠ 0 ∧ c < 128 ∧ pcW c = [c] := by decide
  exact hs c hc h
theorem next_word (md : Md) (s : ByteArray) (f i : Nat) (hi : i < s.size) (h : Pat.wordI (s[i]).toNat = true) : next md s (f + 1) i = ⟨0, 0, i + 1, bs [(s[i]).toNat]⟩ := by
  obtain ⟨h1, _, _, _, h5, h6⟩ := word_more _ h
  unfold next
  rw [nx_at s i hi h5]
  simp only [h1, Bool.and_false, Bool.false_and, Bool.false_eq_true, if_false]
  rw [rest_plain md s _ _ ((word_lit _ h).2.2 md), h6]
theorem grp_word (md : Md) (s : ByteArray) (f : Nat) : ∀ (l r : List Nat) (k j : Nat) (acc : List UInt8), (nums s).drop j = l ++ 41 :: r → (∀ c ∈ l, Pat.wordI (c : Nat) = true) → l.length < k → grp (next md s (f + 1)) s k j acc = .closed (j + l.length) (acc ++ bs l)
  | [], r, k + 1, j, acc, hd, _, _ => by
    have hj : j < s.size := by
      rw [← nums_len]
      rcases Nat.lt_or_ge j (nums s).length with h | h
      · exact h
      · rw [List.drop_of_length_le h] at hd; cases hd
    rw [nums_drop s j hj] at hd
    have h41 : (s[j]).toNat = 41 := by simp at hd; exact hd.1
    unfold grp
    rw [nx_at s j hj (by omega), h41]
    simp [bs]
  | c :: l, r, k + 1, j, acc, hd, hw, hk => by
    have hj : j < s.size := by
      rw [← nums_len]
      rcases Nat.lt_or_ge j (nums s).length with h | h
      · exact h
      · rw [List.drop_of_length_le h] at hd; cases hd
    rw [nums_drop s j hj] at hd
    simp only [List.cons_append, List.cons.injEq] at hd
    have hc := hw c (by simp)
    rw [← hd.1] at hc
    obtain ⟨h1, h2, h3, h4, h5, h6⟩ := word_more _ hc
    unfold grp
    rw [nx_at s j hj h5]
    simp only [if_neg h2, if_neg h3, if_neg h4]
    rw [next_word md s f j hj hc]
    simp only [if_true]
    rw [grp_word md s f l r k (j + 1) _ hd.2 (fun x hx => hw x (by simp [hx])) (by simp at hk; omega), ← hd.1]
    simp [bs]; omega
/-- how often: by the sign -/
def suOf (x : Nat) : Su := if x = 63 then .opt else if x = 42 then .star else if x = 43 then .plus else .one
def gX (x : Nat) (l : List Nat) : G := .flg false false (.ato .beg .one (.grp (gl l .done) (suOf x) (.ato .fin .one .done)))
theorem reg_grp (s : ByteArray) (x : Nat) (hx : x = 63 ∨ x = 42 ∨ x = 43 ∨ x = 64) (l : List Nat) (hs : nums s = x :: 40 :: (l ++ [41])) (hw : ∀ c ∈ l, Pat.wordI (c : Nat) = true) :
    regexpM mdX true false false s = .ok (bs (Re.pr (gX x l))) := by
  have hlen : s.size = l.length + 3 := by rw [← nums_len, hs]; simp
  have h0 : (s[0]'(by omega)).toNat = x := by have := nums_drop s 0 (by omega); rw [hs] at this; simp at this; exact this.symm
  have hd1 : (nums s).drop 1 = 40 :: (l ++ [41]) := by rw [hs]; rfl
  have h1 : (s[1]'(by omega)).toNat = 40 := by have := nums_drop s 1 (by omega); rw [hd1] at this; simp at this; exact this.1.symm
  have hd2 : (nums s).drop 2 = l ++ 41 :: [] := by rw [hs]; rfl
  have hx2 : x < 128 := by omega
  have hop : isOp x = true := by rcases hx with rfl | rfl | rfl | rfl <;> rfl
  have hn0 : nx s 0 = (x, 1) := by rw [nx_at s 0 (by omega) (by omega), h0]
  have hn1 : nx s 1 = (40, 2) := by rw [nx_at s 1 (by omega) (by omega), h1]
  have hdj : (nums s).drop (2 + l.length) = [41] := by rw [← List.drop_drop, hd2]; simp
  have hj : 2 + l.length < s.size := by omega
  have h41 : (s[2 + l.length]'hj).toNat = 41 := by have := nums_drop s _ hj; rw [hdj] at this; simp at this; exact this.1.symm
  have hnj : nx s (2 + l.length) = (41, s.size) := by rw [nx_at s _ hj (by omega), h41]; congr 1; omega
  have hnext : next mdX s (s.size + 1) 0 = ⟨0, 0, s.size, [40] ++ bs l ++ [41] ++ bs (Re.prS (suOf x))⟩ := by
    unfold next
    rw [hn0]
    simp only [hn1, hop, show mdX.ext = true from rfl, Bool.and_self, beq_self_eq_true, if_true]
    obtain ⟨f, hf⟩ : ∃ f, s.size = f + 1 := ⟨l.length + 2, by omega⟩
    have hg := grp_word mdX s f l [] (s.size + 1) 2 [40] hd2 hw (by omega)
    rw [← hf] at hg
    rw [hg]
    simp only [closeG, hnj]
    rcases hx with rfl | rfl | rfl | rfl <;> simp [suOf, Re.prS, en_small, bs]
  unfold regexpM
  rw [if_neg (by simp)]
  have hl1 : loopR mdX s (s.size + 1) 0 (hdr true false false) [] = .done (hdr true false false ++ ([40] ++ bs l ++ [41] ++ bs (Re.prS (suOf x)))) [] := by
    rw [loopR, hnext]
    simp only [show ¬ (0 : Nat) = 1 from by omega, if_false, if_true]
    obtain ⟨f, hf⟩ : ∃ f, s.size = f + 1 := ⟨l.length + 2, by omega⟩
    rw [hf, loopR, ← hf]
    have he : (next mdX s (s.size + 1) s.size).err = 1 := by
      unfold next
      rw [nx_end s s.size (Nat.le_refl _)]
      simp [isOp, rest]
    rw [if_pos he]
  rw [hl1]
  rcases hx with rfl | rfl | rfl | rfl <;> simp [rOut, gX, suOf, Re.pr, Re.prF, Re.prA, Re.prS, Re.pr_gl, hdr, bs]
/-- the same word n times -/
def rep (l : List UInt8) : Nat → List UInt8
  | 0 => []
  | n + 1 => l ++ rep l n
theorem rep_len (l : List UInt8) : ∀ n, (rep l n).length = n * l.length
  | 0 => by simp [rep]
  | n + 1 => by simp [rep, rep_len l n, Nat.succ_mul]; omega
theorem rep_snoc (l : List UInt8) : ∀ n, rep l n ++ l = rep l (n + 1)
  | 0 => by simp [rep]
  | n + 1 => by
    show l ++ rep l n ++ l = l ++ rep l (n + 1)
    rw [List.append_assoc, rep_snoc l n]
theorem alt_word (s : List UInt8) (l : List Nat) (h : ∀ c ∈ l, c < 128) (i t : Nat) : (Re.rel s (Re.lists (gl l .done) false true)).alt i t ↔ (s.drop i).take l.length = bs l ∧ t = i + l.length := by
  rw [Re.alt_lists s _ _ _ _ _ (Re.gl_noBar l .done trivial), Re.sq_gl s true l .done i t h, Re.sq_done]
  exact and_congr_right fun _ => eq_comm
theorem pow_word (s : List UInt8) (l : List Nat) (h : ∀ c ∈ l, c < 128) : ∀ n i t, Re.pow (Re.rel s (Re.lists (gl l .done) false true)).alt n i t ↔ (s.drop i).take (n * l.length) = rep (bs l) n ∧ t = i + n * l.length
  | 0, i, t => by simp [Re.pow, rep]; exact eq_comm
  | n + 1, i, t => by
    have hbl : (bs l).length = l.length := by simp [bs]
    have e : (n + 1) * l.length = l.length + n * l.length := by rw [Nat.succ_mul, Nat.add_comm]
    constructor
    · rintro ⟨k, h1, h2⟩
      obtain ⟨a1, rfl⟩ := (alt_word s l h i k).1 h1
      obtain ⟨a2, rfl⟩ := (pow_word s l h n _ t).1 h2
      refine ⟨?_, by rw [e]; omega⟩
      rw [e, List.take_add, a1, List.drop_drop, a2]
      rfl
    · rintro ⟨h1, rfl⟩
      rw [e, List.take_add, List.drop_drop] at h1
      have h3 : (s.drop i).take l.length = bs l ∧ (s.drop (i + l.length)).take (n * l.length) = rep (bs l) n := by
        have hlen := congrArg List.length h1
        rw [rep_len, hbl, e, List.length_append, List.length_take, List.length_take, List.length_drop, List.length_drop] at hlen
        refine List.append_inj h1 ?_
        rw [List.length_take, List.length_drop, hbl]
        have h6 : n * l.length + l.length = l.length + n * l.length := Nat.add_comm _ _
        omega
      exact ⟨i + l.length, (alt_word s l h i _).2 ⟨h3.1, rfl⟩, (pow_word s l h n _ _).2 ⟨h3.2, by rw [e]; omega⟩⟩
theorem gX_found (s : List UInt8) (x : Nat) (hx : x = 63 ∨ x = 42 ∨ x = 43 ∨ x = 64) (l : List Nat) (h : ∀ c ∈ l, c < 128) :
    fnd s (gX x l) = true ↔ ∃ n : Nat, s = rep (bs l) n ∧ (x = 63 → n ≤ 1) ∧ (x = 43 → 1 ≤ n) ∧ (x = 64 → n = 1) := by
  have hbl : (bs l).length = l.length := by simp [bs]
  have key : ∀ n t, Re.pow (Re.rel s (Re.lists (gl l .done) false true)).alt n 0 t → t = s.length → s = rep (bs l) n := by
    intro n t hp ht
    obtain ⟨h1, h2⟩ := (pow_word s l h n 0 t).1 hp
    rw [List.drop_zero, List.take_of_length_le (by omega)] at h1
    exact h1
  have back : ∀ n, s = rep (bs l) n → Re.pow (Re.rel s (Re.lists (gl l .done) false true)).alt n 0 s.length := by
    intro n hs
    refine (pow_word s l h n 0 _).2 ?_
    have : s.length = n * l.length := by rw [hs, rep_len, hbl]
    exact ⟨by rw [List.drop_zero, List.take_of_length_le (by omega)]; exact hs, by omega⟩
  rw [Re.fnd_iff s (gX x l) trivial]
  have h1 : ∀ i j, Re.sq s (gX x l) false false i j ↔ i = 0 ∧ Re.sq s (.grp (gl l .done) (suOf x) (.ato .fin .one .done)) false true 0 j := by
    intro i j
    rw [gX, Re.sq_flg, Re.sq_beg]; rfl
  simp only [h1]
  rcases hx with rfl | rfl | rfl | rfl
  · simp only [show suOf 63 = Su.opt from rfl, Re.sq_grp_opt, Re.sq_fin, Re.sq_done, Re.timesR]
    constructor
    · rintro ⟨i, j, _, _, t, ⟨n, _, hn, hp⟩, ht, _⟩
      exact ⟨n, key n t hp ht, fun _ => by omega, fun e => by omega, fun e => by omega⟩
    · rintro ⟨n, hs, hn, _, _⟩
      exact ⟨0, s.length, Nat.zero_le _, rfl, s.length, ⟨n, by omega, .inr (by have := hn trivial; omega), back n hs⟩, rfl, rfl⟩
  · simp only [show suOf 42 = Su.star from rfl, Re.sq_grp_star, Re.sq_fin, Re.sq_done, Re.timesR]
    constructor
    · rintro ⟨i, j, _, _, t, ⟨n, _, hn, hp⟩, ht, _⟩
      exact ⟨n, key n t hp ht, fun e => by omega, fun e => by omega, fun e => by omega⟩
    · rintro ⟨n, hs, hn, _, _⟩
      exact ⟨0, s.length, Nat.zero_le _, rfl, s.length, ⟨n, by omega, .inl (by omega), back n hs⟩, rfl, rfl⟩
  · simp only [show suOf 43 = Su.plus from rfl, Re.sq_grp_plus, Re.sq_fin, Re.sq_done, Re.timesR]
    constructor
    · rintro ⟨i, j, _, _, t, ⟨n, hn, _, hp⟩, ht, _⟩
      exact ⟨n, key n t hp ht, fun e => by omega, fun e => by omega, fun e => by omega⟩
    · rintro ⟨n, hs, _, hn, _⟩
      exact ⟨0, s.length, Nat.zero_le _, rfl, s.length, ⟨n, by have := hn trivial; omega, .inl (by omega), back n hs⟩, rfl, rfl⟩
  · simp only [show suOf 64 = Su.one from rfl, Re.sq_grp, Re.sq_fin, Re.sq_done]
    constructor
    · rintro ⟨i, j, _, _, t, hp, ht, _⟩
      refine ⟨1, key 1 t ⟨t, hp, rfl⟩ ht, fun e => by omega, fun e => by omega, fun e => rfl⟩
    · rintro ⟨n, hs, _, _, hn⟩
      obtain rfl := hn trivial
      obtain ⟨k, hp, hk⟩ := back 1 hs
      cases (show k = s.length from hk)
      exact ⟨0, s.length, Nat.zero_le _, rfl, s.length, hp, rfl, rfl⟩
end Go.Proofs.YtonifkkdokaooaaFmt
