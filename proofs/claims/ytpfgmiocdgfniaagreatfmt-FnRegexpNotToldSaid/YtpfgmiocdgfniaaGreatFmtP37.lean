/- Joined by pack.py: Txt, PlS, PlG, PlX, PqA, PqB, PqC, Pieces, InB, Rel, PqD. -/
import Derived.Test.YtpfgmiocdgfniaaGreatFmtP24
import Derived.Test.YtpfgmiocdgfniaaGreatFmtP30
import Derived.Test.YtpfgmiocdgfniaaGreatFmtP01
import Derived.Below
import GoSem.Claims
import Derived.Test.YtpfgmiocdgfniaaGreatFmtP21
set_option linter.unusedVariables false
set_option maxHeartbeats 8000000
set_option maxRecDepth 1000000
namespace Go.Proofs.YtpfgmiocdgfniaaGreatFmt
open Go.ChangeShapes Go.WideShapes Go.ChangeAt Go.RowKit
def Pat.textQ (l : List UInt8) : Bool := l.all fun c => decide (32 ≤ c.toNat ∧ c.toNat ≤ 126)
theorem textQ_any (s : ByteArray) (w : World) (hs : s.size ≤ maxLen) :
    Calls Tryz.prog 6 #[.string s] w fun e w' => e = .returned (.bool (Pat.textQ s.data.toList)) ∧ w = w' := by
  unfold maxLen at hs
  go_enter Tryz.func6, Tryz.ntmps6
  go_wp2
  go_loop [3] (fun i => ∃ k : Nat, k ≤ s.size ∧ i = .int .i64 k ∧ Hid (Pat.textQ s.data.toList = Pat.textQ (s.data.toList.drop k))) (fun i => s.size - (intOf i).toNat)
  case atStart => exact ⟨0, Nat.zero_le _, rfl, Lib.hid rfl⟩
  case round =>
    obtain ⟨k, hk, rfl, H⟩ := hrel
    by_cases hlt : k < s.size
    · have HD := Lib.hid (Pat.drop_cons s k hlt)
      by_cases h1 : s[k].toNat < 32
      · go_wp2
        go_ret
        exact ⟨ret_bool (by rw [H.out, HD.out]; simp [Pat.textQ]; omega), rfl⟩
      · by_cases h2 : 126 < s[k].toNat
        · go_wp2
          go_ret
          exact ⟨ret_bool (by rw [H.out, HD.out]; simp [Pat.textQ]; omega), rfl⟩
        · go_wp2
          go_round
          case rel => exact ⟨k + 1, by omega, by go_num, Lib.hid (by rw [H.out, HD.out]; simp [Pat.textQ]; omega)⟩
          case measure => simp [intOf]; omega
    · go_wp2
      go_ret
      exact ⟨ret_bool (by rw [H.out, Pat.drop_end s k (by omega)]; rfl), rfl⟩
end Go.Proofs.YtpfgmiocdgfniaaGreatFmt

namespace Go.Proofs.YtpfgmiocdgfniaaGreatFmt
open Re (G Ato Su gl sq fnd)
def mdE : Md := ⟨false, false, false, false⟩
theorem moE : Mo 4 mdE := ⟨rfl, rfl, rfl, rfl, rfl⟩
theorem mxE : Mx 4 true false false := ⟨rfl, rfl, rfl, rfl⟩
theorem reg_ent (s : ByteArray) (h : ∀ c ∈ nums s, pcOk mdE c = true) : regexpM mdE true false false s = .ok (bs (Re.pr (gAll true false false (nums s)))) := reg_plain mdE rfl true false false s h (.inl rfl)
theorem star_found (s : List UInt8) (hs : Re.asc s) : fnd s (gAll true false false [42]) = true := by
  rw [fnd_ent]
  refine ⟨s.length, ?_⟩
  show sq s (.ato .dot .star (.ato .fin .one .done)) false true 0 s.length
  rw [Re.sq_dotstar s hs _ _ _ _ (Nat.zero_le _)]
  exact ⟨s.length, Nat.zero_le _, Nat.le_refl _, (Re.sq_fin s _ _ _ _ _).2 ⟨rfl, rfl⟩⟩
theorem sq_any (s : List UInt8) (hs : Re.asc s) (f : Bool) : ∀ (n : Nat) (r : G) (i j : Nat), sq s (gp (List.replicate n 63) r) f true i j ↔ (n = 0 ∨ i + n ≤ s.length) ∧ sq s r f true (i + n) j
  | 0, r, i, j => by simp [gp]
  | n + 1, r, i, j => by
    have e : gp (List.replicate (n + 1) 63) r = .ato .dot .one (gp (List.replicate n 63) r) := by simp [List.replicate_succ, gp]
    rw [e, Re.sq_dot s hs, sq_any s hs f n r (i + 1) j]
    have e2 : i + 1 + n = i + (n + 1) := by omega
    rw [e2, ← and_assoc]
    refine and_congr_left fun _ => ?_
    omega
theorem any_found (s : List UInt8) (hs : Re.asc s) (n : Nat) : fnd s (gAll true false false (List.replicate n 63)) = decide (s.length = n) := by
  rw [Bool.eq_iff_iff, fnd_ent, decide_eq_true_iff]
  simp only [sq_any s hs, Re.sq_fin, Re.sq_done, Nat.zero_add]
  constructor
  · rintro ⟨j, _, h, _⟩; exact h.symm
  · rintro rfl; exact ⟨s.length, by omega, rfl, rfl⟩
theorem textQ_asc (l : List UInt8) (h : Pat.textQ l = true) : Re.asc l := fun c hc => by
  have := List.all_eq_true.1 h c hc
  simp at this
  omega
def qm (n : Nat) : ByteArray := ⟨(List.replicate n (63 : UInt8)).toArray⟩
theorem qm_succ (n : Nat) : qm n ++ ⟨#[63]⟩ = qm (n + 1) := by
  apply ByteArray.ext
  apply Array.ext'
  rw [ByteArray.data_append]
  simp [qm, List.replicate_succ']
theorem qm_size (n : Nat) : (qm n).size = n := by
  show (List.replicate n (63 : UInt8)).toArray.size = n
  simp
theorem nums_qm (n : Nat) : nums (qm n) = List.replicate n 63 := by simp [nums, qm]
end Go.Proofs.YtpfgmiocdgfniaaGreatFmt

namespace Go.Proofs.YtpfgmiocdgfniaaGreatFmt
open Re (G Ato Su gl sq fnd)
theorem sq_end (s : List UInt8) (Q : List Nat) (h : ∀ c ∈ Q, litC c) (d : Bool) (i : Nat) : (∃ j, sq s (gp Q (.ato .fin .one .done)) false d i j) ↔ (s.drop i).take Q.length = bs Q ∧ i + Q.length = s.length := by
  have hl : ∀ c ∈ Q, c < 128 := fun c hc => (h c hc).1
  constructor
  · rintro ⟨j, hj⟩
    rw [sq_gp s false d Q _ _ _ h, Re.sq_gl s d Q _ _ _ hl, Re.sq_fin] at hj
    exact ⟨hj.1, hj.2.1⟩
  · rintro ⟨h1, h2⟩
    refine ⟨s.length, ?_⟩
    rw [sq_gp s false d Q _ _ _ h, Re.sq_gl s d Q _ _ _ hl, Re.sq_fin]
    exact ⟨h1, h2, rfl⟩
theorem take_all {s : List UInt8} {i n : Nat} (h : i + n = s.length) : (s.drop i).take n = s.drop i := List.take_of_length_le (by simp; omega)
theorem lits_found (s : List UInt8) (Q : List Nat) (h : ∀ c ∈ Q, litC c) : fnd s (gAll true false false Q) = decide (s = bs Q) := by
  rw [Bool.eq_iff_iff, fnd_ent, decide_eq_true_iff, sq_end s Q h true 0]
  constructor
  · rintro ⟨h1, h2⟩
    rw [take_all h2] at h1
    simpa using h1
  · rintro rfl
    have : (bs Q).length = Q.length := by simp [bs]
    exact ⟨by rw [take_all (by omega)]; rfl, by omega⟩
theorem star_lits (s : List UInt8) (hs : Re.asc s) (Q : List Nat) (h : ∀ c ∈ Q, litC c) : fnd s (gAll true false false (42 :: Q)) = decide (Q.length ≤ s.length ∧ s.drop (s.length - Q.length) = bs Q) := by
  rw [Bool.eq_iff_iff, fnd_ent, decide_eq_true_iff]
  have e : ∀ r, gp (42 :: Q) r = .ato .dot .star (gp Q r) := fun _ => rfl
  rw [e]
  simp only [Re.sq_dotstar s hs _ _ _ _ (Nat.zero_le _)]
  constructor
  · rintro ⟨j, t, _, h1, h2⟩
    obtain ⟨h3, h4⟩ := (sq_end s Q h true t).1 ⟨j, h2⟩
    rw [take_all h4] at h3
    refine ⟨by omega, ?_⟩
    rw [show s.length - Q.length = t from by omega]; exact h3
  · rintro ⟨h1, h2⟩
    obtain ⟨j, hj⟩ := (sq_end s Q h true (s.length - Q.length)).2 ⟨by rw [take_all (by omega)]; exact h2, by omega⟩
    exact ⟨j, s.length - Q.length, Nat.zero_le _, by omega, hj⟩
theorem any_lits (s : List UInt8) (hs : Re.asc s) (Q : List Nat) (h : ∀ c ∈ Q, litC c) : fnd s (gAll true false false (63 :: Q)) = decide (s.length = Q.length + 1 ∧ s.drop 1 = bs Q) := by
  rw [Bool.eq_iff_iff, fnd_ent, decide_eq_true_iff]
  have e : ∀ r, gp (63 :: Q) r = .ato .dot .one (gp Q r) := fun _ => rfl
  rw [e]
  simp only [Re.sq_dot s hs]
  constructor
  · rintro ⟨j, h1, h2⟩
    obtain ⟨h3, h4⟩ := (sq_end s Q h true (0 + 1)).1 ⟨j, h2⟩
    rw [take_all h4] at h3
    exact ⟨by omega, h3⟩
  · rintro ⟨h1, h2⟩
    obtain ⟨j, hj⟩ := (sq_end s Q h true (0 + 1)).2 ⟨by rw [take_all (by omega)]; exact h2, by omega⟩
    exact ⟨j, by omega, hj⟩
def parL (l : List Nat) : List Nat := 40 :: (l ++ [41])
theorem parL_lit (l : List Nat) (h : ∀ c ∈ l, litC c) : ∀ c ∈ parL l, litC c := by
  intro c hc
  simp only [parL, List.mem_cons, List.mem_append, List.not_mem_nil, or_false] at hc
  rcases hc with rfl | hc | rfl
  · exact ⟨by omega, by omega, by omega⟩
  · exact h c hc
  · exact ⟨by omega, by omega, by omega⟩
theorem pcOk_lit (c : Nat) (h : litC c) (h1 : 1 ≤ c) (h2 : c ≠ 91) (h3 : c ≠ 92) : pcOk mdE c = true := by
  simp [pcOk, mdE, h.1, h1, h2, h3]
theorem words_lit (s : ByteArray) (hw : Pat.wordL s.data.toList = true) : ∀ c ∈ nums s, litC c ∧ Re.litOk c = true ∧ ∀ md, pcOk md c = true := by
  intro c hc
  obtain ⟨b, hb, rfl⟩ := List.mem_map.1 hc
  exact word_lit _ (List.all_eq_true.1 hw b hb)
end Go.Proofs.YtpfgmiocdgfniaaGreatFmt

namespace Go.Proofs.YtpfgmiocdgfniaaGreatFmt
open Re (G Ato Su gl sq fnd)
def mdX : Md := ⟨true, false, false, false⟩
theorem moX : Mo 68 mdX := ⟨rfl, rfl, rfl, rfl, rfl⟩
theorem mxX : Mx 68 true false false := ⟨rfl, rfl, rfl, rfl⟩
theorem word_more (c : Nat) (h : Pat.wordI c = true) : isOp c = false ∧ c ≠ 41 ∧ c ≠ 124 ∧ c ≠ 0 ∧ c < 128 ∧ pcW c = [c] := by
  have hc : c < 128 := by simp [Pat.wordI, Pat.letterI] at h; omega
  have hs : ∀ c, c < 128 → Pat.wordI (c : Nat) = true → isOp c = false ∧ c ≠ 41 ∧ c ≠ 124 ∧ c ≠ 0 ∧ c < 128 ∧ pcW c = [c] := by decide
  exact hs c hc h
theorem next_word (md : Md) (s : ByteArray) (f i : Nat) (hi : i < s.size) (h : Pat.wordI (s[i]).toNat = true) : next md s (f + 1) i = ⟨0, 0, i + 1, bs [(s[i]).toNat]⟩ := by
  obtain ⟨h1, _, _, _, h5, h6⟩ := word_more _ h
  unfold next
  rw [nx_at s i hi h5]
  simp only [h1, Bool.and_false, Bool.false_and, Bool.false_eq_true, if_false]
  rw [rest_plain md s _ _ ((word_lit _ h).2.2 md), h6]
theorem grp_word (md : Md) (s : ByteArray) (f : Nat) : ∀ (l r : List Nat) (k j : Nat) (acc : List UInt8), (nums s).drop j = l ++ 41 :: r → (∀ c ∈ l, Pat.wordI (c : Nat) = true) → l.length < k → grp (next md s (f + 1)) s k j acc = .closed (j + l.length) (acc ++ bs l)
  | [], r, k + 1, j, acc, hd, _, _ => by
    have hj : j < s.size := by
      rw [← nums_len]
      rcases Nat.lt_or_ge j (nums s).length with h | h
      · exact h
      · rw [List.drop_of_length_le h] at hd; cases hd
    rw [nums_drop s j hj] at hd
    have h41 : (s[j]).toNat = 41 := by simp at hd; exact hd.1
    unfold grp
    rw [nx_at s j hj (by omega), h41]
    simp [bs]
  | c :: l, r, k + 1, j, acc, hd, hw, hk => by
    have hj : j < s.size := by
      rw [← nums_len]
      rcases Nat.lt_or_ge j (nums s).length with h | h
      · exact h
      · rw [List.drop_of_length_le h] at hd; cases hd
    rw [nums_drop s j hj] at hd
    simp only [List.cons_append, List.cons.injEq] at hd
    have hc := hw c (by simp)
    rw [← hd.1] at hc
    obtain ⟨h1, h2, h3, h4, h5, h6⟩ := word_more _ hc
    unfold grp
    rw [nx_at s j hj h5]
    simp only [if_neg h2, if_neg h3, if_neg h4]
    rw [next_word md s f j hj hc]
    simp only [if_true]
    rw [grp_word md s f l r k (j + 1) _ hd.2 (fun x hx => hw x (by simp [hx])) (by simp at hk; omega), ← hd.1]
    simp [bs]; omega
def suOf (x : Nat) : Su := if x = 63 then .opt else if x = 42 then .star else if x = 43 then .plus else .one
def gX (x : Nat) (l : List Nat) : G := .flg false false (.ato .beg .one (.grp (gl l .done) (suOf x) (.ato .fin .one .done)))
theorem reg_grp (s : ByteArray) (x : Nat) (hx : x = 63 ∨ x = 42 ∨ x = 43 ∨ x = 64) (l : List Nat) (hs : nums s = x :: 40 :: (l ++ [41])) (hw : ∀ c ∈ l, Pat.wordI (c : Nat) = true) :
    regexpM mdX true false false s = .ok (bs (Re.pr (gX x l))) := by
  have hlen : s.size = l.length + 3 := by rw [← nums_len, hs]; simp
  have h0 : (s[0]'(by omega)).toNat = x := by have := nums_drop s 0 (by omega); rw [hs] at this; simp at this; exact this.symm
  have hd1 : (nums s).drop 1 = 40 :: (l ++ [41]) := by rw [hs]; rfl
  have h1 : (s[1]'(by omega)).toNat = 40 := by have := nums_drop s 1 (by omega); rw [hd1] at this; simp at this; exact this.1.symm
  have hd2 : (nums s).drop 2 = l ++ 41 :: [] := by rw [hs]; rfl
  have hx2 : x < 128 := by omega
  have hop : isOp x = true := by rcases hx with rfl | rfl | rfl | rfl <;> rfl
  have hn0 : nx s 0 = (x, 1) := by rw [nx_at s 0 (by omega) (by omega), h0]
  have hn1 : nx s 1 = (40, 2) := by rw [nx_at s 1 (by omega) (by omega), h1]
  have hdj : (nums s).drop (2 + l.length) = [41] := by rw [← List.drop_drop, hd2]; simp
  have hj : 2 + l.length < s.size := by omega
  have h41 : (s[2 + l.length]'hj).toNat = 41 := by have := nums_drop s _ hj; rw [hdj] at this; simp at this; exact this.1.symm
  have hnj : nx s (2 + l.length) = (41, s.size) := by rw [nx_at s _ hj (by omega), h41]; congr 1; omega
  have hnext : next mdX s (s.size + 1) 0 = ⟨0, 0, s.size, [40] ++ bs l ++ [41] ++ bs (Re.prS (suOf x))⟩ := by
    unfold next
    rw [hn0]
    simp only [hn1, hop, show mdX.ext = true from rfl, Bool.and_self, beq_self_eq_true, if_true]
    obtain ⟨f, hf⟩ : ∃ f, s.size = f + 1 := ⟨l.length + 2, by omega⟩
    have hg := grp_word mdX s f l [] (s.size + 1) 2 [40] hd2 hw (by omega)
    rw [← hf] at hg
    rw [hg]
    simp only [closeG, hnj]
    rcases hx with rfl | rfl | rfl | rfl <;> simp [suOf, Re.prS, en_small, bs]
  unfold regexpM
  rw [if_neg (by simp)]
  have hl1 : loopR mdX s (s.size + 1) 0 (hdr true false false) [] = .done (hdr true false false ++ ([40] ++ bs l ++ [41] ++ bs (Re.prS (suOf x)))) [] := by
    rw [loopR, hnext]
    simp only [show ¬ (0 : Nat) = 1 from by omega, if_false, if_true]
    obtain ⟨f, hf⟩ : ∃ f, s.size = f + 1 := ⟨l.length + 2, by omega⟩
    rw [hf, loopR, ← hf]
    have he : (next mdX s (s.size + 1) s.size).err = 1 := by
      unfold next
      rw [nx_end s s.size (Nat.le_refl _)]
      simp [isOp, rest]
    rw [if_pos he]
  rw [hl1]
  rcases hx with rfl | rfl | rfl | rfl <;> simp [rOut, gX, suOf, Re.pr, Re.prF, Re.prA, Re.prS, Re.pr_gl, hdr, bs]
def rep (l : List UInt8) : Nat → List UInt8
  | 0 => []
  | n + 1 => l ++ rep l n
theorem rep_len (l : List UInt8) : ∀ n, (rep l n).length = n * l.length
  | 0 => by simp [rep]
  | n + 1 => by simp [rep, rep_len l n, Nat.succ_mul]; omega
theorem rep_snoc (l : List UInt8) : ∀ n, rep l n ++ l = rep l (n + 1)
  | 0 => by simp [rep]
  | n + 1 => by
    show l ++ rep l n ++ l = l ++ rep l (n + 1)
    rw [List.append_assoc, rep_snoc l n]
theorem alt_word (s : List UInt8) (l : List Nat) (h : ∀ c ∈ l, c < 128) (i t : Nat) : (Re.rel s (Re.lists (gl l .done) false true)).alt i t ↔ (s.drop i).take l.length = bs l ∧ t = i + l.length := by
  rw [Re.alt_lists s _ _ _ _ _ (Re.gl_noBar l .done trivial), Re.sq_gl s true l .done i t h, Re.sq_done]
  exact and_congr_right fun _ => eq_comm
theorem pow_word (s : List UInt8) (l : List Nat) (h : ∀ c ∈ l, c < 128) : ∀ n i t, Re.pow (Re.rel s (Re.lists (gl l .done) false true)).alt n i t ↔ (s.drop i).take (n * l.length) = rep (bs l) n ∧ t = i + n * l.length
  | 0, i, t => by simp [Re.pow, rep]; exact eq_comm
  | n + 1, i, t => by
    have hbl : (bs l).length = l.length := by simp [bs]
    have e : (n + 1) * l.length = l.length + n * l.length := by rw [Nat.succ_mul, Nat.add_comm]
    constructor
    · rintro ⟨k, h1, h2⟩
      obtain ⟨a1, rfl⟩ := (alt_word s l h i k).1 h1
      obtain ⟨a2, rfl⟩ := (pow_word s l h n _ t).1 h2
      refine ⟨?_, by rw [e]; omega⟩
      rw [e, List.take_add, a1, List.drop_drop, a2]
      rfl
    · rintro ⟨h1, rfl⟩
      rw [e, List.take_add, List.drop_drop] at h1
      have h3 : (s.drop i).take l.length = bs l ∧ (s.drop (i + l.length)).take (n * l.length) = rep (bs l) n := by
        have hlen := congrArg List.length h1
        rw [rep_len, hbl, e, List.length_append, List.length_take, List.length_take, List.length_drop, List.length_drop] at hlen
        refine List.append_inj h1 ?_
        rw [List.length_take, List.length_drop, hbl]
        have h6 : n * l.length + l.length = l.length + n * l.length := Nat.add_comm _ _
        omega
      exact ⟨i + l.length, (alt_word s l h i _).2 ⟨h3.1, rfl⟩, (pow_word s l h n _ _).2 ⟨h3.2, by rw [e]; omega⟩⟩
theorem gX_found (s : List UInt8) (x : Nat) (hx : x = 63 ∨ x = 42 ∨ x = 43 ∨ x = 64) (l : List Nat) (h : ∀ c ∈ l, c < 128) :
    fnd s (gX x l) = true ↔ ∃ n : Nat, s = rep (bs l) n ∧ (x = 63 → n ≤ 1) ∧ (x = 43 → 1 ≤ n) ∧ (x = 64 → n = 1) := by
  have hbl : (bs l).length = l.length := by simp [bs]
  have key : ∀ n t, Re.pow (Re.rel s (Re.lists (gl l .done) false true)).alt n 0 t → t = s.length → s = rep (bs l) n := by
    intro n t hp ht
    obtain ⟨h1, h2⟩ := (pow_word s l h n 0 t).1 hp
    rw [List.drop_zero, List.take_of_length_le (by omega)] at h1
    exact h1
  have back : ∀ n, s = rep (bs l) n → Re.pow (Re.rel s (Re.lists (gl l .done) false true)).alt n 0 s.length := by
    intro n hs
    refine (pow_word s l h n 0 _).2 ?_
    have : s.length = n * l.length := by rw [hs, rep_len, hbl]
    exact ⟨by rw [List.drop_zero, List.take_of_length_le (by omega)]; exact hs, by omega⟩
  rw [Re.fnd_iff s (gX x l) trivial]
  have h1 : ∀ i j, Re.sq s (gX x l) false false i j ↔ i = 0 ∧ Re.sq s (.grp (gl l .done) (suOf x) (.ato .fin .one .done)) false true 0 j := by
    intro i j
    rw [gX, Re.sq_flg, Re.sq_beg]; rfl
  simp only [h1]
  rcases hx with rfl | rfl | rfl | rfl
  · simp only [show suOf 63 = Su.opt from rfl, Re.sq_grp_opt, Re.sq_fin, Re.sq_done, Re.timesR]
    constructor
    · rintro ⟨i, j, _, _, t, ⟨n, _, hn, hp⟩, ht, _⟩
      exact ⟨n, key n t hp ht, fun _ => by omega, fun e => by omega, fun e => by omega⟩
    · rintro ⟨n, hs, hn, _, _⟩
      exact ⟨0, s.length, Nat.zero_le _, rfl, s.length, ⟨n, by omega, .inr (by have := hn trivial; omega), back n hs⟩, rfl, rfl⟩
  · simp only [show suOf 42 = Su.star from rfl, Re.sq_grp_star, Re.sq_fin, Re.sq_done, Re.timesR]
    constructor
    · rintro ⟨i, j, _, _, t, ⟨n, _, hn, hp⟩, ht, _⟩
      exact ⟨n, key n t hp ht, fun e => by omega, fun e => by omega, fun e => by omega⟩
    · rintro ⟨n, hs, hn, _, _⟩
      exact ⟨0, s.length, Nat.zero_le _, rfl, s.length, ⟨n, by omega, .inl (by omega), back n hs⟩, rfl, rfl⟩
  · simp only [show suOf 43 = Su.plus from rfl, Re.sq_grp_plus, Re.sq_fin, Re.sq_done, Re.timesR]
    constructor
    · rintro ⟨i, j, _, _, t, ⟨n, hn, _, hp⟩, ht, _⟩
      exact ⟨n, key n t hp ht, fun e => by omega, fun e => by omega, fun e => by omega⟩
    · rintro ⟨n, hs, _, hn, _⟩
      exact ⟨0, s.length, Nat.zero_le _, rfl, s.length, ⟨n, by have := hn trivial; omega, .inl (by omega), back n hs⟩, rfl, rfl⟩
  · simp only [show suOf 64 = Su.one from rfl, Re.sq_grp, Re.sq_fin, Re.sq_done]
    constructor
    · rintro ⟨i, j, _, _, t, hp, ht, _⟩
      refine ⟨1, key 1 t ⟨t, hp, rfl⟩ ht, fun e => by omega, fun e => by omega, fun e => rfl⟩
    · rintro ⟨n, hs, _, _, hn⟩
      obtain rfl := hn trivial
      obtain ⟨k, hp, hk⟩ := back 1 hs
      cases (show k = s.length from hk)
      exact ⟨0, s.length, Nat.zero_le _, rfl, s.length, hp, rfl, rfl⟩
end Go.Proofs.YtpfgmiocdgfniaaGreatFmt

namespace Go.Proofs.YtpfgmiocdgfniaaGreatFmt
open Go.RowKit Go.Extern
open Re (G Ato Su CI gl sq fnd)
inductive Q where
  | nil
  | bar (r : Q)
  | ch (e : Bool) (c : Nat) (r : Q)
  | any (r : Q)
  | star (r : Q)
  | cls (neg : Bool) (is : List CI) (r : Q)
  | grp (x : Nat) (i : Q) (r : Q)
def prC (e : Bool) (c : Nat) : List Nat := if e then [92, c] else [c]
def prK (neg : Bool) (is : List CI) : List Nat := 91 :: ((if neg then [33] else []) ++ (Re.prIs is ++ [93]))
def prQ : Q → List Nat
  | .nil => []
  | .bar r => 124 :: prQ r
  | .ch e c r => prC e c ++ prQ r
  | .any r => 63 :: prQ r
  | .star r => 42 :: prQ r
  | .cls neg is r => prK neg is ++ prQ r
  | .grp x i r => x :: 40 :: (prQ i ++ 41 :: prQ r)
def qsz : Q → Nat
  | .nil => 0
  | .bar r => qsz r + 1
  | .ch _ _ r => qsz r + 1
  | .any r => qsz r + 1
  | .star r => qsz r + 1
  | .cls _ _ r => qsz r + 1
  | .grp _ i r => qsz i + qsz r + 1
def chP (c : Nat) : Bool := Re.ltr c || c == 95 || c == 44 || c == 126 || c == 37 || c == 32
def itP : CI → Bool
  | .ch c => chP c
  | .rng a b => chP a && chP b && decide (a ≤ b)
  | .nm k => decide (1 ≤ k) && decide (k ≤ 12)
def isOpB (c : Nat) : Bool := c == 33 || c == 43 || c == 64 || c == 40 || c == 41 || c == 124
def okQ (md : Md) : Bool → Q → Bool
  | _, .nil => true
  | top, .bar r => !top && okQ md top r
  | top, .ch e c r => decide (1 ≤ c) && decide (c < 128) && (e || (c != 42 && c != 63 && c != 91 && c != 92 && (!md.ext || !isOpB c))) && okQ md top r
  | top, .any r => okQ md top r
  | top, .star r => okQ md top r
  | top, .cls _ is r => is.all itP && !is.isEmpty && okQ md top r
  | top, .grp x i r => md.ext && ((!md.fil && (x == 63 || x == 42 || x == 43 || x == 64)) || (x == 33 && top)) && okQ md false i && okQ md top r
def nsl : Ato := .cls true [.ch 47]
def nslp : Ato := .cls true [.ch 47, .ch 46]
def gTail (md : Md) (b : Bool) (z : G) : G := if b && !md.dot then .grp (.ato nslp .one (.ato nsl .star .done)) .opt z else .ato nsl .star z
def gSl (md : Md) (z : G) : G := if md.dot then .ato .dot .star z else .grp (.ato (.lit 47) .one (.bar (.ato nslp .one (.ato nsl .star .done)))) .star z
def hd47 : Q → Bool
  | .ch e c _ => !e && c == 47
  | _ => false
def isNil : Q → Bool
  | .nil => true
  | _ => false
def hdStar : Q → Bool
  | .star _ => true
  | _ => false
def tlQ : Q → Q
  | .nil => .nil
  | .bar r => r
  | .ch _ _ r => r
  | .any r => r
  | .star r => r
  | .cls _ _ r => r
  | .grp _ _ r => r
def dbl (md : Md) (top b : Bool) (r : Q) : Bool := !md.ngs && b && (hd47 (tlQ r) || (top && isNil (tlQ r)))
def gStar (md : Md) (top b : Bool) (r : Q) (z : G) : G :=
  if md.fil then
    (if hdStar r then (if dbl md top b r then (if hd47 (tlQ r) then .grp (gSl md (.ato (.lit 47) .one .done)) .opt z else gSl md z) else gTail md b z)
     else gTail md b z)
  else .ato .dot .star z
def skN (md : Md) (top b : Bool) (r : Q) : Nat := if md.fil && hdStar r then (if dbl md top b r && hd47 (tlQ r) then 2 else 1) else 0
def gAny (md : Md) : Ato := if md.fil then nsl else .dot
def gCh (c : Nat) : Ato := if reMeta c then .esc c else .lit c
def gq (md : Md) (z : G) : Bool → Q → Nat → Bool → G
  | _, .nil, _, _ => z
  | top, .bar r, 0, _ => .bar (gq md z top r 0 false)
  | top, .bar r, n + 1, _ => gq md z top r n false
  | top, .ch e c r, 0, _ => .ato (gCh c) .one (gq md z top r 0 (c == 47))
  | top, .ch e c r, n + 1, _ => gq md z top r n (c == 47)
  | top, .any r, 0, _ => .ato (gAny md) .one (gq md z top r 0 false)
  | top, .any r, n + 1, _ => gq md z top r n false
  | top, .star r, 0, b => gStar md top b r (gq md z top r (skN md top b r) false)
  | top, .star r, n + 1, _ => gq md z top r n false
  | top, .cls neg is r, 0, _ => .ato (.cls neg is) .one (gq md z top r 0 false)
  | top, .cls neg is r, n + 1, _ => gq md z top r n false
  | top, .grp x i r, 0, _ => .grp (gq md .done false i 0 false) (suOf x) (gq md z top r 0 false)
  | top, .grp x i r, n + 1, _ => gq md z top r n false
def negs : Nat → Q → List (Nat × Nat)
  | _, .nil => []
  | p, .bar r => negs (p + 1) r
  | p, .ch e c r => negs (p + (prC e c).length) r
  | p, .any r => negs (p + 1) r
  | p, .star r => negs (p + 1) r
  | p, .cls neg is r => negs (p + (prK neg is).length) r
  | p, .grp x i r => (if x = 33 then [(p, p + (prQ i).length + 3)] else []) ++ negs (p + ((prQ i).length + 3)) r
theorem gCh_pr (c : Nat) : Re.prA (gCh c) = if reMeta c then [92, c] else [c] := by
  unfold gCh; split <;> rfl
theorem gTail_pr (md : Md) (b : Bool) (z : G) : bs (Re.pr (gTail md b z)) = stTail md b ++ bs (Re.pr z) := by
  unfold gTail stTail
  cases h : b && !md.dot <;> simp [Re.pr, Re.prA, Re.prS, Re.prIs, Re.prI, nsl, nslp, bs]
theorem gSl_pr (md : Md) (z : G) : bs (Re.pr (gSl md z)) = stSlash md ++ bs (Re.pr z) := by
  unfold gSl stSlash
  cases h : md.dot <;> simp [Re.pr, Re.prA, Re.prS, Re.prIs, Re.prI, nsl, nslp, bs, dotstar]
theorem chP_ok (c : Nat) (h : chP c = true) : Re.chOk c = true ∧ c ≠ 33 ∧ c ≠ 0 ∧ c < 128 ∧ c ≠ 47 := by
  have hc : c < 128 := by simp [chP, Re.ltr] at h; omega
  have : ∀ c, c < 128 → chP c = true → Re.chOk c = true ∧ c ≠ 33 ∧ c ≠ 0 ∧ c < 128 ∧ c ≠ 47 := by decide
  exact this c hc h
theorem itP_ok (i : CI) (h : itP i = true) : i.ok = true := by
  cases i with
  | ch c => exact (chP_ok c h).1
  | rng a b =>
    simp only [itP, Bool.and_eq_true, decide_eq_true_eq] at h
    simp [CI.ok, (chP_ok a h.1.1).1, (chP_ok b h.1.2).1, h.2]
  | nm k => exact h
theorem isP_ok : ∀ is : List CI, is.all itP = true → Re.isOk is = true
  | [], _ => rfl
  | i :: r, h => by
    simp only [List.all_cons, Bool.and_eq_true] at h
    simp [Re.isOk, itP_ok i h.1, isP_ok r h.2]
theorem gTail_ok (md : Md) (b : Bool) (z : G) (h : z.ok = true) : (gTail md b z).ok = true := by
  unfold gTail
  split <;> simp [Re.G.ok, h] <;> decide
theorem gSl_ok (md : Md) (z : G) (h : z.ok = true) : (gSl md z).ok = true := by
  unfold gSl
  split <;> simp [Re.G.ok, h] <;> decide
theorem gStar_ok (md : Md) (top b : Bool) (r : Q) (z : G) (h : z.ok = true) : (gStar md top b r z).ok = true := by
  unfold gStar
  split
  · split
    · split
      · split
        · have := gSl_ok md (.ato (.lit 47) .one .done) (by decide)
          simp only [Re.G.ok, this, h, Bool.and_self]
        · exact gSl_ok md z h
      · exact gTail_ok md b z h
    · exact gTail_ok md b z h
  · simp [Re.G.ok, Re.Ato.ok, h]
theorem gCh_ok (c : Nat) (h : c < 128) : (gCh c).ok = true := by
  unfold gCh
  split
  · rename_i hm; exact esc_of c h hm
  · rename_i hm; exact lit_of c h (by simpa using hm)
theorem gAny_ok (md : Md) : (gAny md).ok = true := by unfold gAny; split <;> decide
theorem gq_ok (md : Md) : ∀ (q : Q) (z : G) (top : Bool) (n : Nat) (b : Bool), z.ok = true → okQ md top q = true → (gq md z top q n b).ok = true
  | .nil, z, _, n, b, hz, _ => by cases n <;> exact hz
  | .bar r, z, top, n, b, hz, h => by
    simp only [okQ, Bool.and_eq_true] at h
    cases n with
    | zero => exact gq_ok md r z top 0 false hz h.2
    | succ n => exact gq_ok md r z top n false hz h.2
  | .ch e c r, z, top, n, b, hz, h => by
    simp only [okQ, Bool.and_eq_true, decide_eq_true_eq] at h
    cases n with
    | zero => simp only [gq, Re.G.ok, gCh_ok c h.1.1.2, gq_ok md r z top 0 (c == 47) hz h.2, Bool.and_self]
    | succ n => exact gq_ok md r z top n (c == 47) hz h.2
  | .any r, z, top, n, b, hz, h => by
    simp only [okQ] at h
    cases n with
    | zero => simp only [gq, Re.G.ok, gAny_ok, gq_ok md r z top 0 false hz h, Bool.and_self]
    | succ n => exact gq_ok md r z top n false hz h
  | .star r, z, top, n, b, hz, h => by
    simp only [okQ] at h
    cases n with
    | zero => exact gStar_ok md top b r _ (gq_ok md r z top _ false hz h)
    | succ n => exact gq_ok md r z top n false hz h
  | .cls neg is r, z, top, n, b, hz, h => by
    simp only [okQ, Bool.and_eq_true] at h
    cases n with
    | zero => simp only [gq, Re.G.ok, Re.Ato.ok, isP_ok is h.1.1, h.1.2, gq_ok md r z top 0 false hz h.2, Bool.and_self]
    | succ n => exact gq_ok md r z top n false hz h.2
  | .grp x i r, z, top, n, b, hz, h => by
    simp only [okQ, Bool.and_eq_true] at h
    cases n with
    | zero => simp only [gq, Re.G.ok, gq_ok md i .done false 0 false rfl h.1.2, gq_ok md r z top 0 false hz h.2, Bool.and_self]
    | succ n => exact gq_ok md r z top n false hz h.2
theorem gTail_len (md : Md) (b : Bool) (z : G) : (Re.pr (gTail md b z)).length ≤ 13 + (Re.pr z).length := by
  have := congrArg List.length (gTail_pr md b z)
  simp only [bs, List.length_map, List.length_append] at this
  have h2 : (stTail md b).length ≤ 13 := by unfold stTail; split <;> simp
  omega
theorem gSl_len (md : Md) (z : G) : (Re.pr (gSl md z)).length ≤ 15 + (Re.pr z).length := by
  have := congrArg List.length (gSl_pr md z)
  simp only [bs, List.length_map, List.length_append] at this
  have h2 : (stSlash md).length ≤ 15 := by unfold stSlash; split <;> simp [dotstar]
  omega
theorem gStar_len (md : Md) (top b : Bool) (r : Q) (z : G) : (Re.pr (gStar md top b r z)).length ≤ 20 + (Re.pr z).length := by
  have h1 := gTail_len md b z
  have h2 := gSl_len md z
  have h3 := gSl_len md (.ato (.lit 47) .one .done)
  have e : (Re.pr (.ato (.lit 47) .one .done)).length = 1 := rfl
  unfold gStar
  split
  · split
    · split
      · split
        · simp only [Re.pr, List.length_cons, List.length_append, Re.prS]
          simp only [List.length_nil]
          simp only [Re.pr] at h3
          have e2 : (Re.prA (.lit 47) ++ (Re.prS .one ++ ([] : List Nat))).length = 1 := rfl
          omega
        · omega
      · omega
    · omega
  · simp only [Re.pr, List.length_append]
    have : (Re.prA .dot).length = 1 ∧ (Re.prS .star).length = 1 := ⟨rfl, rfl⟩
    omega
theorem gCh_len (c : Nat) : (Re.prA (gCh c)).length ≤ 2 := by rw [gCh_pr]; split <;> simp
theorem gAny_len (md : Md) : (Re.prA (gAny md)).length ≤ 4 := by unfold gAny; split <;> simp [nsl, Re.prA, Re.prIs, Re.prI]
theorem suOf_len (x : Nat) : (Re.prS (suOf x)).length ≤ 1 := by unfold suOf; split; simp [Re.prS]; split; simp [Re.prS]; split <;> simp [Re.prS]
theorem prC_len (e : Bool) (c : Nat) : 1 ≤ (prC e c).length := by unfold prC; split <;> simp
theorem gq_len (md : Md) : ∀ (q : Q) (z : G) (top : Bool) (n : Nat) (b : Bool), (Re.pr (gq md z top q n b)).length ≤ 20 * (prQ q).length + (Re.pr z).length
  | .nil, z, _, n, b => by cases n <;> simp [gq, prQ]
  | .bar r, z, top, n, b => by
    cases n with
    | zero => have := gq_len md r z top 0 false; simp only [gq, Re.pr, prQ, List.length_cons]; omega
    | succ n => have := gq_len md r z top n false; simp only [gq, prQ, List.length_cons]; omega
  | .ch e c r, z, top, n, b => by
    have h0 := prC_len e c
    cases n with
    | zero => have := gq_len md r z top 0 (c == 47); have := gCh_len c; simp only [gq, Re.pr, prQ, Re.prS, List.length_append, List.length_nil]; omega
    | succ n => have := gq_len md r z top n (c == 47); simp only [gq, prQ, List.length_append]; omega
  | .any r, z, top, n, b => by
    cases n with
    | zero => have := gq_len md r z top 0 false; have := gAny_len md; simp only [gq, Re.pr, prQ, Re.prS, List.length_append, List.length_cons, List.length_nil]; omega
    | succ n => have := gq_len md r z top n false; simp only [gq, prQ, List.length_cons]; omega
  | .star r, z, top, n, b => by
    cases n with
    | zero => have := gq_len md r z top (skN md top b r) false; have := gStar_len md top b r (gq md z top r (skN md top b r) false); simp only [gq, prQ, List.length_cons]; omega
    | succ n => have := gq_len md r z top n false; simp only [gq, prQ, List.length_cons]; omega
  | .cls neg is r, z, top, n, b => by
    cases n with
    | zero => have := gq_len md r z top 0 false; cases neg <;> simp only [gq, Re.pr, prQ, prK, Re.prA, Re.prS, List.length_append, List.length_cons, List.length_nil, if_true, Bool.false_eq_true, if_false] <;> omega
    | succ n => have := gq_len md r z top n false; simp only [gq, prQ, List.length_append]; omega
  | .grp x i r, z, top, n, b => by
    cases n with
    | zero =>
      have h1 := gq_len md i .done false 0 false
      have h2 := gq_len md r z top 0 false
      have h3 := suOf_len x
      have e : (Re.pr .done).length = 0 := rfl
      simp only [gq, Re.pr, prQ, List.length_append, List.length_cons]; omega
    | succ n => have := gq_len md r z top n false; simp only [gq, prQ, List.length_append, List.length_cons]; omega
theorem gTail_noBar (md : Md) (b : Bool) (z : G) (h : Re.noBar z) : Re.noBar (gTail md b z) := by unfold gTail; split <;> exact h
theorem gSl_noBar (md : Md) (z : G) (h : Re.noBar z) : Re.noBar (gSl md z) := by unfold gSl; split <;> exact h
theorem gStar_noBar (md : Md) (top b : Bool) (r : Q) (z : G) (h : Re.noBar z) : Re.noBar (gStar md top b r z) := by
  unfold gStar
  split
  · split
    · split
      · split
        · exact h
        · exact gSl_noBar md z h
      · exact gTail_noBar md b z h
    · exact gTail_noBar md b z h
  · exact h
theorem gq_noBar (md : Md) : ∀ (q : Q) (z : G) (n : Nat) (b : Bool), Re.noBar z → okQ md true q = true → Re.noBar (gq md z true q n b)
  | .nil, z, n, b, hz, _ => by cases n <;> exact hz
  | .bar r, z, n, b, hz, h => by simp [okQ] at h
  | .ch e c r, z, n, b, hz, h => by
    simp only [okQ, Bool.and_eq_true] at h
    cases n <;> exact gq_noBar md r z _ _ hz h.2
  | .any r, z, n, b, hz, h => by
    simp only [okQ] at h
    cases n <;> exact gq_noBar md r z _ _ hz h
  | .star r, z, n, b, hz, h => by
    simp only [okQ] at h
    cases n with
    | zero => exact gStar_noBar md true b r _ (gq_noBar md r z _ _ hz h)
    | succ n => exact gq_noBar md r z _ _ hz h
  | .cls neg is r, z, n, b, hz, h => by
    simp only [okQ, Bool.and_eq_true] at h
    cases n <;> exact gq_noBar md r z _ _ hz h.2
  | .grp x i r, z, n, b, hz, h => by
    simp only [okQ, Bool.and_eq_true] at h
    cases n <;> exact gq_noBar md r z _ _ hz h.2
end Go.Proofs.YtpfgmiocdgfniaaGreatFmt

namespace Go.Proofs.YtpfgmiocdgfniaaGreatFmt
open Go.RowKit Go.Extern
open Re (G Ato Su CI gl sq fnd)
theorem nd {s : ByteArray} {i c : Nat} {r : List Nat} (h : (nums s).drop i = c :: r) : ∃ hi : i < s.size, (s[i]'hi).toNat = c ∧ (nums s).drop (i + 1) = r := by
  have hi : i < s.size := by
    rw [← nums_len]
    rcases Nat.lt_or_ge i (nums s).length with h1 | h1
    · exact h1
    · rw [List.drop_of_length_le h1] at h; cases h
  rw [nums_drop s i hi] at h
  simp only [List.cons.injEq] at h
  exact ⟨hi, h.1, h.2⟩
theorem nx_c {s : ByteArray} {i c : Nat} {r : List Nat} (h : (nums s).drop i = c :: r) (hc : c < 128) : nx s i = (c, i + 1) := by
  obtain ⟨hi, h1, _⟩ := nd h
  rw [nx_at s i hi (by omega), h1]
theorem nd_app {s : ByteArray} {i : Nat} {a r : List Nat} (h : (nums s).drop i = a ++ r) : (nums s).drop (i + a.length) = r := by
  rw [← List.drop_drop, h, List.drop_left]
theorem nd_size {s : ByteArray} {i : Nat} {a : List Nat} (h : (nums s).drop i = a) (hi : i ≤ s.size) : i + a.length = s.size := by
  have := congrArg List.length h
  rw [List.length_drop, nums_len] at this; omega
theorem lastR_at (s : ByteArray) (i : Nat) (hi : i < s.size) (h : (s[i]).toNat < 128) : lastR s (i + 2) = (s[i]).toNat := by
  have hl : (s.extract 0 (i + 1)).data.toList = s.data.toList.take (i + 1) := by rw [extract_list]; simp
  have hlen : (s.data.toList.take (i + 1)).length = i + 1 := by rw [List.length_take, Pat.size_toList]; omega
  have hg : (s.data.toList.take (i + 1)).getD i 0 = s[i] := by
    rw [List.getD_eq_getElem?_getD, List.getElem?_take_of_lt (by omega), List.getElem?_eq_getElem (by rw [Pat.size_toList]; exact hi)]
    simp [ByteArray.getElem_eq_getElem_data]
  unfold lastR
  rw [if_neg (by omega), show i + 2 - 1 = i + 1 from by omega, hl]
  unfold Lib.decodeLastL
  rw [if_neg (by intro e; rw [e] at hlen; simp at hlen), hlen, show i + 1 - 1 = i from by omega, hg, if_pos h]
theorem data_drop (s : ByteArray) (i : Nat) : s.data.toList.drop i = bs ((nums s).drop i) := by
  rw [← bs_nums]; simp [bs]
theorem bs_take (l : List Nat) (n : Nat) : (bs l).take n = bs (l.take n) := by simp [bs]
theorem bs_len (l : List Nat) : (bs l).length = l.length := by simp [bs]
theorem nm_cases {k : Nat} {P : Nat → Prop} (h1 : 1 ≤ k) (h2 : k ≤ 12) (h : P 1 ∧ P 2 ∧ P 3 ∧ P 4 ∧ P 5 ∧ P 6 ∧ P 7 ∧ P 8 ∧ P 9 ∧ P 10 ∧ P 11 ∧ P 12) : P k := by
  obtain ⟨a1, a2, a3, a4, a5, a6, a7, a8, a9, a10, a11, a12⟩ := h
  have : k = 1 ∨ k = 2 ∨ k = 3 ∨ k = 4 ∨ k = 5 ∨ k = 6 ∨ k = 7 ∨ k = 8 ∨ k = 9 ∨ k = 10 ∨ k = 11 ∨ k = 12 := by omega
  rcases this with rfl | rfl | rfl | rfl | rfl | rfl | rfl | rfl | rfl | rfl | rfl | rfl <;> assumption
theorem nm_no (k : Nat) (h1 : 1 ≤ k) (h2 : k ≤ 12) : ∀ c ∈ bs (Re.nmL k), c ≠ 58 := nm_cases (P := fun k => ∀ c ∈ bs (Re.nmL k), c ≠ 58) h1 h2 (by refine ⟨?_, ?_, ?_, ?_, ?_, ?_, ?_, ?_, ?_, ?_, ?_, ?_⟩ <;> decide)
theorem nm_known (k : Nat) (h1 : 1 ≤ k) (h2 : k ≤ 12) : known.contains (bs (Re.nmL k)) = true := nm_cases (P := fun k => known.contains (bs (Re.nmL k)) = true) h1 h2 (by refine ⟨?_, ?_, ?_, ?_, ?_, ?_, ?_, ?_, ?_, ?_, ?_, ?_⟩ <;> decide)
theorem nm_slash (k : Nat) (h1 : 1 ≤ k) (h2 : k ≤ 12) : (idx (bs (58 :: (Re.nmL k ++ [58, 93]))) [47]).isSome = false := nm_cases (P := fun k => (idx (bs (58 :: (Re.nmL k ++ [58, 93]))) [47]).isSome = false) h1 h2 (by refine ⟨?_, ?_, ?_, ?_, ?_, ?_, ?_, ?_, ?_, ?_, ?_, ?_⟩ <;> decide)
theorem idx_name (nm r : List UInt8) (h : ∀ c ∈ nm, c ≠ 58) : idx (nm ++ (58 :: 93 :: r)) [58, 93] = some nm.length := by
  have := idxI_at (nm ++ (58 :: 93 :: r)) [58, 93] nm.length (by simp) (fun j hj => by
    unfold atL
    rw [List.drop_append_of_le_length (by omega), List.drop_eq_getElem_cons hj]
    have hne := h nm[j] (List.getElem_mem hj)
    simp only [List.cons_append, List.length_cons, List.take_succ_cons]
    rw [beq_eq_false_iff_ne]
    intro e
    exact hne (List.cons.inj e).1) (by unfold atL; simp)
  unfold idxI at this
  cases hx : idx (nm ++ (58 :: 93 :: r)) [58, 93] with
  | none => rw [hx] at this; simp only at this; omega
  | some k => rw [hx] at this; simp only at this; rw [show k = nm.length from by omega]
theorem cc_name (k : Nat) (h1 : 1 ≤ k) (h2 : k ≤ 12) (r : List Nat) : cc (bs (58 :: (Re.nmL k ++ (58 :: 93 :: r)))) = ((Re.nmL k).length + 3, false) := by
  have hi := idx_name (bs (Re.nmL k)) (bs r) (nm_no k h1 h2)
  have e : bs (58 :: (Re.nmL k ++ (58 :: 93 :: r))) = 58 :: (bs (Re.nmL k) ++ (58 :: 93 :: bs r)) := by simp [bs]
  rw [e]
  unfold cc
  simp only [show (58 : UInt8).toNat = 58 from rfl, if_true]
  rw [hi]
  simp only [bs_len]
  rw [List.take_left' (bs_len _), nm_known k h1 h2]
  rfl
theorem brL_items (fil : Bool) (s : ByteArray) (lit : Nat) : ∀ (is : List CI) (f j : Nat) (b0 : List UInt8) (r : List Nat), is.all itP = true → (nums s).drop j = Re.prIs is ++ 93 :: r → s.size < f + j →
    brL fil s lit f ⟨(nx s j).1, (nx s j).2, b0, false, false, false⟩ = ⟨0, 0, j + (Re.prIs is).length + 1, b0 ++ bs (Re.prIs is) ++ [93]⟩
  | [], f, j, b0, r, _, hd, hf => by
    obtain ⟨hj, _, _⟩ := nd hd
    obtain ⟨f, rfl⟩ : ∃ g, f = g + 1 := ⟨f - 1, by omega⟩
    rw [nx_c hd (by omega)]
    unfold brL
    simp [Re.prIs, bs]
  | .ch c :: is, f, j, b0, r, hi, hd, hf => by
    simp only [List.all_cons, Bool.and_eq_true] at hi
    obtain ⟨k1, k2, k3, k4, k5⟩ := chP_ok c hi.1
    have kk : c ≠ 45 ∧ c ≠ 91 ∧ c ≠ 92 ∧ c ≠ 93 := by simp [Re.chOk] at k1; omega
    have hd' : (nums s).drop j = c :: (Re.prIs is ++ 93 :: r) := hd
    obtain ⟨hj, _, hd2⟩ := nd hd'
    obtain ⟨f, rfl⟩ : ∃ g, f = g + 1 := ⟨f - 1, by omega⟩
    have h47 : (c == 47) = false := by simpa using k5
    rw [nx_c hd' k4]
    unfold brL
    simp only [if_neg k3, if_neg kk.1, if_neg kk.2.1, if_neg kk.2.2.1, if_neg kk.2.2.2]
    have ih := brL_items fil s lit is f (j + 1) (b0 ++ en c) r hi.2 hd2 (by omega)
    simp only [adv, brDef, h47, Bool.and_false, Bool.or_false]
    rw [ih, en_small c k4]
    simp only [Re.prIs, Re.prI, bs, List.map_cons, List.map_append, List.map_nil, List.append_assoc, List.length_cons, List.length_append, List.length_nil]
    simp only [Res.mk.injEq, true_and, and_true]
    omega
  | .rng a b :: is, f, j, b0, r, hi, hd, hf => by
    simp only [List.all_cons, Bool.and_eq_true, itP, decide_eq_true_eq] at hi
    obtain ⟨k1, k2, k3, k4, k5⟩ := chP_ok a hi.1.1.1
    obtain ⟨l1, l2, l3, l4, l5⟩ := chP_ok b hi.1.1.2
    have kk : a ≠ 45 ∧ a ≠ 91 ∧ a ≠ 92 ∧ a ≠ 93 := by simp [Re.chOk] at k1; omega
    have ll : b ≠ 45 ∧ b ≠ 91 ∧ b ≠ 92 ∧ b ≠ 93 := by simp [Re.chOk] at l1; omega
    have hd' : (nums s).drop j = a :: (45 :: b :: (Re.prIs is ++ 93 :: r)) := by rw [hd]; simp [Re.prIs, Re.prI]
    obtain ⟨hj, hsa, hd2⟩ := nd hd'
    obtain ⟨hj2, _, hd3⟩ := nd hd2
    obtain ⟨hj3, _, hd4⟩ := nd hd3
    have hla := lastR_at s j hj (by omega)
    rw [hsa] at hla
    obtain ⟨f, rfl⟩ : ∃ g, f = g + 1 + 1 + 1 := ⟨f - 3, by omega⟩
    have h47 : (a == 47) = false := by simpa using k5
    have h47b : (b == 47) = false := by simpa using l5
    have e1 : nx s (j + 1) = (45, j + 1 + 1) := nx_c hd2 (by omega)
    have e2 : nx s (j + 1 + 1) = (b, j + 1 + 1 + 1) := nx_c hd3 l4
    have hlt : decide (b < a) = false := by simp; omega
    rw [nx_c hd' k4]
    unfold brL
    simp only [if_neg k3, if_neg kk.1, if_neg kk.2.1, if_neg kk.2.2.1, if_neg kk.2.2.2, adv, brDef, h47, Bool.and_false, Bool.or_false, e1]
    unfold brL
    simp only [show ¬ (45 : Nat) = 0 from by omega, show ¬ (45 : Nat) = 92 from by omega, if_false, if_true, brDash, adv, e2, hla, hlt, Bool.and_false, Bool.or_false, show j + 1 + 1 = j + 2 from rfl]
    unfold brL
    simp only [if_neg l3, if_neg ll.1, if_neg ll.2.1, if_neg ll.2.2.1, if_neg ll.2.2.2, adv, brDef, h47b, Bool.and_false, Bool.or_false]
    have ih := brL_items fil s lit is f (j + 1 + 1 + 1) (b0 ++ en a ++ [45] ++ en b) r hi.2 hd4 (by omega)
    simp only [show j + 1 + 1 + 1 = j + 2 + 1 from rfl] at ih ⊢
    rw [ih, en_small a k4, en_small b l4]
    simp only [Re.prIs, Re.prI, bs, List.map_cons, List.map_append, List.map_nil, List.append_assoc, List.length_cons, List.length_append, List.length_nil]
    simp only [Res.mk.injEq, true_and]
    exact ⟨by omega, by simp⟩
  | .nm k :: is, f, j, b0, r, hi, hd, hf => by
    simp only [List.all_cons, Bool.and_eq_true, itP, decide_eq_true_eq] at hi
    have hd' : (nums s).drop j = 91 :: (58 :: (Re.nmL k ++ (58 :: 93 :: (Re.prIs is ++ 93 :: r)))) := by rw [hd]; simp [Re.prIs, Re.prI]
    obtain ⟨hj, _, hd2⟩ := nd hd'
    have hcc := cc_name k hi.1.1 hi.1.2 (Re.prIs is ++ 93 :: r)
    have hdl : (s.extract (j + 1) s.size).data.toList = bs (58 :: (Re.nmL k ++ (58 :: 93 :: (Re.prIs is ++ 93 :: r)))) := by
      rw [extract_list, data_drop, hd2, List.take_of_length_le]
      have := nd_size hd2 (by omega)
      rw [bs_len]; omega
    have hap : (nums s).drop (j + 1) = (58 :: (Re.nmL k ++ [58, 93])) ++ (Re.prIs is ++ 93 :: r) := by rw [hd2]; simp
    have hln : (58 :: (Re.nmL k ++ [58, 93])).length = (Re.nmL k).length + 3 := by simp
    have hex : (s.extract (j + 1) (j + 1 + ((Re.nmL k).length + 3))).data.toList = bs (58 :: (Re.nmL k ++ [58, 93])) := by
      rw [extract_list, data_drop, hap, show j + 1 + ((Re.nmL k).length + 3) - (j + 1) = (Re.nmL k).length + 3 from by omega, bs_take, ← hln, List.take_left]
    have hd3 : (nums s).drop (j + 1 + ((Re.nmL k).length + 3)) = Re.prIs is ++ 93 :: r := by have := nd_app hap; rwa [hln] at this
    have hsl := nm_slash k hi.1.1 hi.1.2
    obtain ⟨f, rfl⟩ : ∃ g, f = g + 1 := ⟨f - 1, by omega⟩
    rw [nx_c hd' (by omega)]
    unfold brL
    simp only [show ¬ (91 : Nat) = 0 from by omega, show ¬ (91 : Nat) = 92 from by omega, show ¬ (91 : Nat) = 45 from by omega, show ¬ (91 : Nat) = 93 from by omega, if_false, if_true, brOpen, adv, hdl, hcc, hex, hsl, Bool.and_false, Bool.or_false]
    have ih := brL_items fil s lit is f (j + 1 + ((Re.nmL k).length + 3)) (b0 ++ 91 :: bs (58 :: (Re.nmL k ++ [58, 93]))) r hi.2 hd3 (by omega)
    rw [ih]
    simp only [Re.prIs, Re.prI, bs, List.map_cons, List.map_append, List.map_nil, List.append_assoc, List.length_cons, List.length_append, List.length_nil]
    simp only [Res.mk.injEq, true_and]
    exact ⟨by omega, by simp⟩
theorem prIs_head (is : List CI) (h : is.all itP = true) (hne : is ≠ []) : ∃ c l, Re.prIs is = c :: l ∧ c ≠ 0 ∧ c ≠ 33 ∧ c ≠ 94 ∧ c ≠ 93 ∧ c < 128 := by
  cases is with
  | nil => exact absurd rfl hne
  | cons i is =>
    simp only [List.all_cons, Bool.and_eq_true] at h
    have key : ∀ c, chP c = true → c ≠ 0 ∧ c ≠ 33 ∧ c ≠ 94 ∧ c ≠ 93 ∧ c < 128 := by
      intro c hc
      obtain ⟨k1, k2, k3, k4, k5⟩ := chP_ok c hc
      simp [Re.chOk] at k1; omega
    cases i with
    | ch c => exact ⟨c, Re.prIs is, rfl, key c h.1⟩
    | rng a b =>
      have h1 := h.1
      simp only [itP, Bool.and_eq_true] at h1
      exact ⟨a, 45 :: b :: Re.prIs is, rfl, key a h1.1.1⟩
    | nm k => exact ⟨91, 58 :: (Re.nmL k ++ [58, 93]) ++ Re.prIs is, rfl, by decide⟩
theorem brk_cls (fil : Bool) (s : ByteArray) (i : Nat) (neg : Bool) (is : List CI) (r : List Nat) (h : is.all itP = true) (hne : is ≠ []) (hd : (nums s).drop i = prK neg is ++ r) :
    brk fil s (i + 1) = ⟨0, 0, i + (prK neg is).length, bs (Re.prA (.cls neg is))⟩ := by
  obtain ⟨c, l, hp, c0, c33, c94, c93, c128⟩ := prIs_head is h hne
  have fin : ∀ j b0, i < j → (nums s).drop j = Re.prIs is ++ 93 :: r → br2 fil s (i + 1) (nx s j).1 (nx s j).2 b0 = ⟨0, 0, j + (Re.prIs is).length + 1, b0 ++ bs (Re.prIs is) ++ [93]⟩ := by
    intro j b0 hij hdj
    have hdc : (nums s).drop j = c :: (l ++ 93 :: r) := by rw [hdj, hp]; rfl
    obtain ⟨hj, _, _⟩ := nd hdc
    have e := nx_c hdc c128
    have hL := brL_items fil s (i + 1) is (need s ⟨(nx s j).1, (nx s j).2, b0, false, false, false⟩ + 1) j b0 r h hdj (by
      unfold need
      simp only [e, if_neg c0]
      omega)
    unfold br2 br3
    rw [if_neg (by rw [e]; exact c93)]
    exact hL
  cases neg with
  | false =>
    have hd1 : (nums s).drop i = 91 :: (Re.prIs is ++ 93 :: r) := by rw [hd]; simp [prK]
    obtain ⟨hi, _, hd2⟩ := nd hd1
    have hdc : (nums s).drop (i + 1) = c :: (l ++ 93 :: r) := by rw [hd2, hp]; rfl
    have e := nx_c hdc c128
    unfold brk
    rw [if_neg (by rw [e]; exact c0)]
    unfold br1
    rw [if_neg (by rw [e]; simp only; omega), fin (i + 1) [91] (by omega) hd2]
    simp [prK, Re.prA, bs]; omega
  | true =>
    have hd1 : (nums s).drop i = 91 :: (33 :: (Re.prIs is ++ 93 :: r)) := by rw [hd]; simp [prK]
    obtain ⟨hi, _, hd2⟩ := nd hd1
    obtain ⟨hi2, _, hd3⟩ := nd hd2
    have hdc : (nums s).drop (i + 1 + 1) = c :: (l ++ 93 :: r) := by rw [hd3, hp]; rfl
    have e := nx_c hdc c128
    have e1 : nx s (i + 1) = (33, i + 1 + 1) := nx_c hd2 (by omega)
    unfold brk
    rw [if_neg (by rw [e1]; simp)]
    unfold br1
    rw [e1]
    simp only [true_or, if_true]
    rw [if_neg (by rw [e]; exact c0), fin (i + 1 + 1) [91, 94] (by omega) hd3]
    simp [prK, Re.prA, bs]; omega
end Go.Proofs.YtpfgmiocdgfniaaGreatFmt

namespace Go.Proofs.YtpfgmiocdgfniaaGreatFmt
open Go.RowKit Go.Extern
open Re (G Ato Su CI gl sq fnd)
def sb (s : ByteArray) (i : Nat) : Bool := i == 0 || lastR s (i + 1) == 47
theorem sb_at {s : ByteArray} {i c : Nat} {r : List Nat} (h : (nums s).drop i = c :: r) (hc : c < 128) : sb s (i + 1) = (c == 47) := by
  obtain ⟨hi, h1, _⟩ := nd h
  have := lastR_at s i hi (by omega)
  unfold sb
  rw [show i + 1 + 1 = i + 2 from rfl, this, h1]
  simp
def notEnd : Q → Bool
  | .nil => false
  | .bar _ => false
  | _ => true
structure StepOK (md : Md) (s : ByteArray) (top : Bool) (q : Q) (i : Nat) (t : List Nat) (er st n : Nat) (out : List Nat) (q' : Q) : Prop where
  n1 : 1 ≤ n
  rest : (nums s).drop (i + n) = prQ q' ++ t
  ok : okQ md top q' = true
  sz : qsz q' < qsz q
  wr : ∀ z, Re.pr (gq md z top q 0 (sb s i)) = out ++ Re.pr (gq md z top q' 0 (sb s (i + n)))
  ng : (er = 0 ∧ negs i q = negs (i + n) q') ∨ (top = true ∧ er = 2 ∧ st = i ∧ negs i q = (i, i + n) :: negs (i + n) q')
def StepR (md : Md) (s : ByteArray) (top : Bool) (q : Q) (i : Nat) (t : List Nat) (r : Res) : Prop :=
  ∃ (er st n : Nat) (out : List Nat) (q' : Q), r = ⟨er, st, i + n, bs out⟩ ∧ StepOK md s top q i t er st n out q'
def TlOK (top : Bool) (t : List Nat) : Prop := (top = true ∧ t = []) ∨ (top = false ∧ ∃ t', t = 41 :: t')
theorem head_of (md : Md) (top : Bool) (q : Q) (t : List Nat) (h : okQ md top q = true) (ht : TlOK top t) :
    (q = .nil ∧ t = [] ∧ top = true) ∨ ∃ c l, prQ q ++ t = c :: l ∧ c < 128 ∧ c ≠ 0 ∧ (md.ext = true → c ≠ 40) ∧ (md.fil = true → (c = 42 ↔ hdStar q = true)) ∧ (c = 47 ↔ hd47 q = true) ∧ (notEnd q = true → md.ext = true → c ≠ 41 ∧ c ≠ 124) := by
  cases q with
  | nil =>
    rcases ht with ⟨ht, rfl⟩ | ⟨_, t', rfl⟩
    · exact .inl ⟨rfl, rfl, ht⟩
    · exact .inr ⟨41, t', rfl, by omega, by omega, by omega, by simp [hdStar], by simp [hd47], by simp [notEnd]⟩
  | bar r => exact .inr ⟨124, _, rfl, by omega, by omega, by omega, by simp [hdStar], by simp [hd47], by simp [notEnd]⟩
  | ch e c r =>
    simp only [okQ, Bool.and_eq_true, decide_eq_true_eq] at h
    cases e with
    | true => exact .inr ⟨92, _, rfl, by omega, by omega, by omega, by simp [hdStar], by simp [hd47], by simp⟩
    | false =>
      obtain ⟨⟨⟨h1, h2⟩, h3⟩, h4⟩ := h
      simp only [Bool.false_or, Bool.and_eq_true, bne_iff_ne, ne_eq, Bool.or_eq_true, Bool.not_eq_true'] at h3
      have h5 : md.ext = true → isOpB c = false := fun e => by rcases h3.2 with h | h; rw [e] at h; cases h; exact h
      refine .inr ⟨c, prQ r ++ t, by simp [prQ, prC], h2, by omega, ?_, ?_, ?_, ?_⟩
      · intro e; have := h5 e; simp [isOpB] at this; omega
      · simp [hdStar]; omega
      · simp [hd47]
      · intro _ e; have := h5 e; simp [isOpB] at this; omega
  | any r => exact .inr ⟨63, _, rfl, by omega, by omega, by omega, by simp [hdStar], by simp [hd47], by simp⟩
  | star r => exact .inr ⟨42, _, rfl, by omega, by omega, by omega, by simp [hdStar], by simp [hd47], by simp⟩
  | cls neg is r => exact .inr ⟨91, _, rfl, by omega, by omega, by omega, by simp [hdStar], by simp [hd47], by simp⟩
  | grp x i r =>
    simp only [okQ, Bool.and_eq_true, Bool.or_eq_true, beq_iff_eq, Bool.not_eq_true'] at h
    have hx : x = 63 ∨ x = 42 ∨ x = 43 ∨ x = 64 ∨ x = 33 := by omega
    have hf : md.fil = true → x = 33 := by
      intro e
      rcases h.1.1.2 with h | h
      · rw [e] at h; cases h.1
      · exact h.1
    refine .inr ⟨x, _, rfl, by omega, by omega, by omega, ?_, ?_, by omega⟩
    · intro e; simp [hdStar, hf e]
    · simp [hd47]; omega
theorem nx_nil {s : ByteArray} {i : Nat} (h : (nums s).drop i = []) : nx s i = (0, i) := by
  have := List.drop_eq_nil_iff.1 h
  rw [nums_len] at this
  exact nx_end s i this
theorem next_rest (md : Md) (s : ByteArray) (f i c : Nat) (r : List Nat) (hd : (nums s).drop i = c :: r) (hc : c < 128) (h : md.ext = true → isOp c = true → (nx s (i + 1)).1 ≠ 40) : next md s (f + 1) i = rest md s c (i + 1) := by
  have e := nx_c hd hc
  unfold next
  rw [e]
  have : (md.ext && isOp c && (nx s (i + 1)).1 == 40) = false := by
    rw [Bool.eq_false_iff]
    intro hh
    simp only [Bool.and_eq_true, beq_iff_eq] at hh
    exact h hh.1.1 hh.1.2 hh.2
  simp only [this, Bool.false_eq_true, if_false]
theorem no40 {md : Md} {top : Bool} {q : Q} {t : List Nat} {s : ByteArray} {i : Nat} (h : okQ md top q = true) (ht : TlOK top t) (hd : (nums s).drop i = prQ q ++ t) (he : md.ext = true) : (nx s i).1 ≠ 40 := by
  rcases head_of md top q t h ht with ⟨rfl, rfl, _⟩ | ⟨c, l, e, hc, h0, h40, _⟩
  · rw [nx_nil (by rw [hd]; rfl)]; simp
  · rw [nx_c (by rw [hd, e]) hc]; exact h40 he
theorem rest_ch (md : Md) (s : ByteArray) (c i : Nat) (h0 : c ≠ 0) (h42 : c ≠ 42) (h63 : c ≠ 63) (h91 : c ≠ 91) (h92 : c ≠ 92) (hc : c < 128) : rest md s c i = ⟨0, 0, i, bs (Re.prA (gCh c))⟩ := by
  unfold rest
  rw [if_neg h0, if_neg h42, if_neg h63, if_neg h92, if_neg h91, if_neg (by omega), en_small c hc, rq1_small c hc, gCh_pr]
theorem isOp_cases (c : Nat) : isOp c = true → c = 33 ∨ c = 63 ∨ c = 42 ∨ c = 43 ∨ c = 64 := by
  intro h; simp [isOp] at h; omega
theorem gq_ch0 (md : Md) (z : G) (top : Bool) (e : Bool) (c : Nat) (r : Q) (b : Bool) : Re.pr (gq md z top (.ch e c r) 0 b) = Re.prA (gCh c) ++ Re.pr (gq md z top r 0 (c == 47)) := by
  simp [gq, Re.pr, Re.prS]
theorem step_ch (md : Md) (s : ByteArray) (top e : Bool) (c : Nat) (r : Q) (f i : Nat) (t : List Nat) (h : okQ md top (.ch e c r) = true) (hd : (nums s).drop i = prQ (.ch e c r) ++ t) : StepR md s top (.ch e c r) i t (next md s (f + 1) i) := by
  simp only [okQ, Bool.and_eq_true, decide_eq_true_eq] at h
  obtain ⟨⟨⟨h1, h2⟩, h3⟩, h4⟩ := h
  cases e with
  | false =>
    simp only [Bool.false_or, Bool.and_eq_true, bne_iff_ne, ne_eq, Bool.or_eq_true, Bool.not_eq_true'] at h3
    have h5 : md.ext = true → isOpB c = false := fun e => by rcases h3.2 with h | h; rw [e] at h; cases h; exact h
    have hd1 : (nums s).drop i = c :: (prQ r ++ t) := by rw [hd]; simp [prQ, prC]
    obtain ⟨_, _, hd2⟩ := nd hd1
    refine ⟨0, 0, 1, Re.prA (gCh c), r, ?_, by omega, hd2, h4, by simp [qsz], fun z => ?_, .inl ⟨rfl, rfl⟩⟩
    · rw [next_rest md s f i c _ hd1 h2 (fun he ho => by
        have := h5 he
        have := isOp_cases c ho
        simp [isOpB] at *
        omega)]
      exact rest_ch md s c (i + 1) (by omega) (by omega) (by omega) (by omega) (by omega) h2
    · rw [gq_ch0, sb_at hd1 h2]
  | true =>
    have hd1 : (nums s).drop i = 92 :: (c :: (prQ r ++ t)) := by rw [hd]; simp [prQ, prC]
    obtain ⟨_, _, hd2⟩ := nd hd1
    obtain ⟨_, _, hd3⟩ := nd hd2
    refine ⟨0, 0, 2, Re.prA (gCh c), r, ?_, by omega, hd3, h4, by simp [qsz], fun z => ?_, .inl ⟨rfl, rfl⟩⟩
    · rw [next_rest md s f i 92 _ hd1 (by omega) (fun he ho => by simp [isOp] at ho)]
      unfold rest
      simp only [show ¬ (92 : Nat) = 0 from by omega, show ¬ (92 : Nat) = 42 from by omega, show ¬ (92 : Nat) = 63 from by omega, if_false, if_true]
      rw [nx_c hd2 h2]
      simp only [show ¬ c = 0 from by omega, if_false]
      rw [en_small c h2, rq1_small c h2, gCh_pr]
    · rw [gq_ch0]
      have := sb_at hd2 h2
      rw [show i + 2 = i + 1 + 1 from rfl, this]
theorem step_any (md : Md) (s : ByteArray) (top : Bool) (r : Q) (f i : Nat) (t : List Nat) (h : okQ md top (.any r) = true) (hd : (nums s).drop i = prQ (.any r) ++ t) (ht : TlOK top t) : StepR md s top (.any r) i t (next md s (f + 1) i) := by
  have h4 : okQ md top r = true := h
  have hd1 : (nums s).drop i = 63 :: (prQ r ++ t) := hd
  obtain ⟨_, _, hd2⟩ := nd hd1
  refine ⟨0, 0, 1, Re.prA (gAny md), r, ?_, by omega, hd2, h4, by simp [qsz], fun z => ?_, .inl ⟨rfl, rfl⟩⟩
  · rw [next_rest md s f i 63 _ hd1 (by omega) (fun he _ => no40 h4 ht hd2 he)]
    unfold rest gAny
    cases md.fil <;> simp [nsl, Re.prA, Re.prIs, Re.prI, bs]
  · rw [sb_at hd1 (by omega)]; simp [gq, Re.pr, Re.prS]
theorem step_cls (md : Md) (s : ByteArray) (top neg : Bool) (is : List CI) (r : Q) (f i : Nat) (t : List Nat) (h : okQ md top (.cls neg is r) = true) (hd : (nums s).drop i = prQ (.cls neg is r) ++ t) : StepR md s top (.cls neg is r) i t (next md s (f + 1) i) := by
  simp only [okQ, Bool.and_eq_true, Bool.not_eq_true', List.isEmpty_eq_false_iff] at h
  obtain ⟨⟨h1, h2⟩, h4⟩ := h
  have hd0 : (nums s).drop i = prK neg is ++ (prQ r ++ t) := by rw [hd]; simp [prQ]
  have hd1 : (nums s).drop i = 91 :: ((if neg then [33] else []) ++ (Re.prIs is ++ [93]) ++ (prQ r ++ t)) := by rw [hd0]; simp [prK]
  have hd2 := nd_app hd0
  obtain ⟨n, hn⟩ : ∃ n, (prK neg is).length = n + 1 := ⟨(prK neg is).length - 1, by simp [prK]⟩
  have hl : (nums s).drop (i + n) = 93 :: (prQ r ++ t) := by
    have e : prK neg is = (91 :: ((if neg then [33] else []) ++ Re.prIs is)) ++ [93] := by simp [prK]
    have e2 : (91 :: ((if neg then [33] else []) ++ Re.prIs is)).length = n := by have := congrArg List.length e; simp only [List.length_append, List.length_cons, List.length_nil] at this ⊢; simp only [hn] at this; omega
    have := nd_app (a := 91 :: ((if neg then [33] else []) ++ Re.prIs is)) (r := 93 :: (prQ r ++ t)) (by rw [hd0, e]; simp)
    rwa [e2] at this
  refine ⟨0, 0, (prK neg is).length, Re.prA (.cls neg is), r, ?_, by omega, hd2, h4, by simp [qsz], fun z => ?_, .inl ⟨rfl, rfl⟩⟩
  · rw [next_rest md s f i 91 _ hd1 (by omega) (fun he ho => by simp [isOp] at ho)]
    unfold rest
    simp only [show ¬ (91 : Nat) = 0 from by omega, show ¬ (91 : Nat) = 42 from by omega, show ¬ (91 : Nat) = 63 from by omega, show ¬ (91 : Nat) = 92 from by omega, if_false, if_true]
    exact brk_cls md.fil s i neg is _ h1 h2 hd0
  · have := sb_at hl (by omega)
    rw [hn, ← Nat.add_assoc, this]; simp [gq, Re.pr, Re.prS]
theorem gq_star0 (md : Md) (z : G) (top : Bool) (r : Q) (b : Bool) : gq md z top (.star r) 0 b = gStar md top b r (gq md z top r (skN md top b r) false) := rfl
theorem step_star (md : Md) (s : ByteArray) (top : Bool) (r : Q) (f i : Nat) (t : List Nat) (h : okQ md top (.star r) = true) (hd : (nums s).drop i = prQ (.star r) ++ t) (ht : TlOK top t) : StepR md s top (.star r) i t (next md s (f + 1) i) := by
  have h4 : okQ md top r = true := h
  have hd1 : (nums s).drop i = 42 :: (prQ r ++ t) := hd
  obtain ⟨hi, _, hd2⟩ := nd hd1
  have hnext : next md s (f + 1) i = star md s (i + 1) := by
    rw [next_rest md s f i 42 _ hd1 (by omega) (fun he _ => no40 h4 ht hd2 he)]
    unfold rest
    simp
  have hsb : (i + 1 == 1 || lastR s (i + 1) == 47) = sb s i := by unfold sb; simp
  have hs1 := sb_at hd1 (by omega)
  rw [hnext]
  unfold star
  rw [hsb]
  cases hf : md.fil with
  | false =>
    simp only [Bool.false_eq_true, if_false]
    refine ⟨0, 0, 1, [46, 42], r, rfl, by omega, hd2, h4, by simp [qsz], fun z => ?_, .inl ⟨rfl, rfl⟩⟩
    rw [gq_star0, hs1]
    simp [gStar, skN, hf, Re.pr, Re.prA, Re.prS]
  | true =>
    simp only [if_true]
    cases hst : hdStar r with
    | false =>
      have hn42 : ¬ (nx s (i + 1)).1 = 42 := by
        rcases head_of md top r t h4 ht with ⟨rfl, rfl, _⟩ | ⟨c, l, e, hc, h0, h40, h42, _⟩
        · rw [nx_nil (by rw [hd2]; rfl)]; simp
        · rw [nx_c (by rw [hd2, e]) hc]
          intro ee
          have := (h42 hf).1 ee
          rw [hst] at this; cases this
      rw [if_neg hn42]
      refine ⟨0, 0, 1, Re.pr (gTail md (sb s i) .done), r, ?_, by omega, hd2, h4, by simp [qsz], fun z => ?_, .inl ⟨rfl, rfl⟩⟩
      · rw [gTail_pr]; simp [Re.pr, bs]
      · rw [gq_star0, hs1]
        simp only [gStar, skN, hf, hst, Bool.and_false, Bool.false_eq_true, if_false, if_true]
        unfold gTail
        split <;> simp [Re.pr]
    | true =>
      obtain ⟨r2, rfl⟩ : ∃ r2, r = .star r2 := by cases r <;> simp [hdStar] at hst; exact ⟨_, rfl⟩
      have h5 : okQ md top r2 = true := h4
      have hd2' : (nums s).drop (i + 1) = 42 :: (prQ r2 ++ t) := hd2
      obtain ⟨hi2, _, hd3⟩ := nd hd2'
      have hs2 := sb_at hd2' (by omega)
      have e1 := nx_c hd2' (by omega)
      rw [e1]
      simp only [if_true]
      unfold star2
      have hcond : (!md.ngs && sb s i && (i + 1 + 1 == s.size || (nx s (i + 1 + 1)).1 == 47)) = dbl md top (sb s i) (.star r2) ∧ ((nx s (i + 1 + 1)).1 = 47 ↔ hd47 r2 = true) := by
        unfold dbl
        show (_ && (_ || _)) = (_ && (hd47 r2 || (top && isNil r2))) ∧ _
        rcases head_of md top r2 t h5 ht with ⟨rfl, rfl, htop⟩ | ⟨c, l, e, hc, h0, h40, h42, h47, _⟩
        · have hz : i + 1 + 1 = s.size := by have := nd_size hd3 (by omega); simpa [prQ] using this
          rw [nx_nil (by rw [hd3]; rfl), hz, htop]
          simp [hd47, isNil]
        · have hne : (i + 1 + 1 == s.size) = false := by
            rw [e] at hd3
            obtain ⟨hh, _⟩ := nd hd3
            rw [beq_eq_false_iff_ne]; omega
          have hnn : (top && isNil r2) = false := by
            cases r2 with
            | nil =>
              rcases ht with ⟨ht, rfl⟩ | ⟨ht, t', rfl⟩
              · simp [prQ] at e
              · rw [ht]; rfl
            | _ => simp [isNil]
          rw [nx_c (by rw [hd3, e]) hc, hne, hnn]
          refine ⟨?_, h47⟩
          simp only [Bool.or_false, Bool.false_or]
          congr 1
          rw [Bool.eq_iff_iff, beq_iff_eq]; exact h47
      rw [hcond.1]
      cases hdb : dbl md top (sb s i) (.star r2) with
      | false =>
        simp only [Bool.false_eq_true, if_false]
        refine ⟨0, 0, 2, Re.pr (gTail md (sb s i) .done), r2, ?_, by omega, hd3, h5, by simp [qsz]; omega, fun z => ?_, .inl ⟨rfl, rfl⟩⟩
        · rw [gTail_pr]; simp [Re.pr, bs]
        · rw [gq_star0, show i + 2 = i + 1 + 1 from rfl, hs2]
          simp only [gStar, skN, hf, hst, hdb, Bool.false_and, Bool.false_eq_true, if_false, if_true, Bool.and_self, gq]
          unfold gTail
          split <;> simp [Re.pr]
      | true =>
        simp only [if_true]
        cases h47 : hd47 r2 with
        | false =>
          rw [if_neg (by rw [hcond.2, h47]; simp)]
          refine ⟨0, 0, 2, Re.pr (gSl md .done), r2, ?_, by omega, hd3, h5, by simp [qsz]; omega, fun z => ?_, .inl ⟨rfl, rfl⟩⟩
          · rw [gSl_pr]; simp [Re.pr, bs]
          · rw [gq_star0, show i + 2 = i + 1 + 1 from rfl, hs2]
            simp only [gStar, skN, hf, hst, hdb, h47, tlQ, Bool.and_false, Bool.false_eq_true, if_false, if_true, Bool.and_self, gq]
            unfold gSl
            split <;> simp [Re.pr]
        | true =>
          rw [if_pos (hcond.2.2 h47)]
          obtain ⟨r3, rfl⟩ : ∃ r3, r2 = .ch false 47 r3 := by
            cases r2 <;> simp [hd47] at h47
            rename_i e c r
            obtain ⟨rfl, rfl⟩ := h47
            exact ⟨_, rfl⟩
          have h6 : okQ md top r3 = true := by simp only [okQ, Bool.and_eq_true] at h5; exact h5.2
          have hd3' : (nums s).drop (i + 1 + 1) = 47 :: (prQ r3 ++ t) := hd3
          obtain ⟨hi3, _, hd4⟩ := nd hd3'
          have hs3 := sb_at hd3' (by omega)
          refine ⟨0, 0, 3, 40 :: (Re.pr (gSl md (.ato (.lit 47) .one .done)) ++ [41, 63]), r3, ?_, by omega, hd4, h6, by simp [qsz]; omega, fun z => ?_, .inl ⟨rfl, rfl⟩⟩
          · have := gSl_pr md (.ato (.lit 47) .one .done)
            simp only [bs, List.map_cons, List.map_append] at this ⊢
            rw [this]
            simp [Re.pr, Re.prA, Re.prS]
          · rw [gq_star0, show i + 3 = i + 1 + 1 + 1 from rfl, hs3]
            simp only [gStar, skN, hf, hst, hdb, h47, tlQ, Bool.and_self, if_true, gq]
            simp [Re.pr, Re.prS]
theorem grp_q (md : Md) (s : ByteArray) (f N : Nat) (hS : ∀ q i t, qsz q ≤ N → okQ md false q = true → notEnd q = true → (nums s).drop i = prQ q ++ t → TlOK false t → s.size < f + i → StepR md s false q i t (next md s f i)) :
    ∀ (M : Nat) (q : Q) (k j : Nat) (acc : List UInt8) (t : List Nat), qsz q ≤ M → qsz q ≤ N → okQ md false q = true → md.ext = true → (nums s).drop j = prQ q ++ 41 :: t → s.size < k + j → s.size < f + j →
      grp (next md s f) s k j acc = .closed (j + (prQ q).length) (acc ++ bs (Re.pr (gq md .done false q 0 (sb s j)))) := by
  intro M
  induction M with
  | zero =>
    intro q k j acc t hM hN hok he hd hk hf
    cases q <;> simp [qsz] at hM
    have hd1 : (nums s).drop j = 41 :: t := hd
    obtain ⟨hj, _, _⟩ := nd hd1
    obtain ⟨k, rfl⟩ : ∃ g, k = g + 1 := ⟨k - 1, by omega⟩
    unfold grp
    rw [nx_c hd1 (by omega)]
    simp [prQ, gq, Re.pr, bs]
  | succ M ih =>
    intro q k j acc t hM hN hok he hd hk hf
    cases hne : notEnd q with
    | false =>
      cases q with
      | nil =>
        have hd1 : (nums s).drop j = 41 :: t := hd
        obtain ⟨hj, _, _⟩ := nd hd1
        obtain ⟨k, rfl⟩ : ∃ g, k = g + 1 := ⟨k - 1, by omega⟩
        unfold grp
        rw [nx_c hd1 (by omega)]
        simp [prQ, gq, Re.pr, bs]
      | bar r =>
        have hd1 : (nums s).drop j = 124 :: (prQ r ++ 41 :: t) := hd
        obtain ⟨hj, _, hd2⟩ := nd hd1
        obtain ⟨k, rfl⟩ : ∃ g, k = g + 1 := ⟨k - 1, by omega⟩
        have hok2 : okQ md false r = true := by simp only [okQ, Bool.and_eq_true] at hok; exact hok.2
        simp only [qsz] at hM hN
        have h2 := ih r k (j + 1) (acc ++ [124]) t (by omega) (by omega) hok2 he hd2 (by omega) (by omega)
        unfold grp
        rw [nx_c hd1 (by omega)]
        simp only [show ¬ (124 : Nat) = 41 from by omega, if_false, if_true]
        rw [h2, sb_at hd1 (by omega)]
        simp [prQ, gq, Re.pr, bs]; omega
      | _ => simp [notEnd] at hne
    | true =>
      have hT : TlOK false (41 :: t) := .inr ⟨rfl, t, rfl⟩
      rcases head_of md false q (41 :: t) hok hT with ⟨_, h, _⟩ | ⟨c, l, e, hc, h0, h40, h42, h47, h41⟩
      · cases h
      · have hd1 := hd
        rw [e] at hd1
        obtain ⟨hj, _, _⟩ := nd hd1
        obtain ⟨k, rfl⟩ : ∃ g, k = g + 1 := ⟨k - 1, by omega⟩
        obtain ⟨er, st, n, out, q', hr, hs⟩ := hS q j (41 :: t) hN hok hne hd hT hf
        have her : er = 0 := by
          rcases hs.ng with h | h
          · exact h.1
          · exact absurd h.1 (by simp)
        have hsz := hs.sz
        have hn1 := hs.n1
        have hrs := hs.rest
        have h2 := ih q' k (j + n) (acc ++ bs out) t (by omega) (by omega) hs.ok he hrs (by omega) (by omega)
        have hlen : j + n + (prQ q').length = j + (prQ q).length := by
          have a1 := nd_size hd (by omega)
          have a2 : j + n ≤ s.size := by
            rcases Nat.lt_or_ge (j + n) (nums s).length with h | h
            · rw [nums_len] at h; omega
            · rw [List.drop_of_length_le h] at hrs
              have := congrArg List.length hrs; simp at this
          have a3 := nd_size hrs a2
          simp only [List.length_append] at a1 a3
          omega
        unfold grp
        rw [nx_c hd1 hc]
        simp only [if_neg (h41 hne he).1, if_neg (h41 hne he).2, if_neg h0]
        rw [hr, her]
        simp only [if_true]
        rw [h2, hlen, hs.wr .done]
        simp [bs]
theorem suOf_en (x : Nat) (h : x = 63 ∨ x = 42 ∨ x = 43) : en x = bs (Re.prS (suOf x)) := by
  rcases h with rfl | rfl | rfl <;> (rw [en_small _ (by omega)]; rfl)
theorem step_q (md : Md) (s : ByteArray) : ∀ (N : Nat) (q : Q) (f i : Nat) (top : Bool) (t : List Nat), qsz q ≤ N → okQ md top q = true → notEnd q = true → (nums s).drop i = prQ q ++ t → TlOK top t → s.size < f + i → StepR md s top q i t (next md s f i) := by
  intro N
  induction N with
  | zero => intro q f i top t hN; cases q <;> simp [qsz] at hN <;> simp [notEnd]
  | succ N ih =>
    intro q f i top t hN hok hne hd hT hf
    have hi : i < s.size := by
      rcases head_of md top q t hok hT with ⟨rfl, h, _⟩ | ⟨c, l, e, _⟩
      · simp [notEnd] at hne
      · rw [e] at hd; exact (nd hd).1
    obtain ⟨f, rfl⟩ : ∃ g, f = g + 1 := ⟨f - 1, by omega⟩
    cases q with
    | nil => simp [notEnd] at hne
    | bar r => simp [notEnd] at hne
    | ch e c r => exact step_ch md s top e c r f i t hok hd
    | any r => exact step_any md s top r f i t hok hd hT
    | star r => exact step_star md s top r f i t hok hd hT
    | cls neg is r => exact step_cls md s top neg is r f i t hok hd
    | grp x p r =>
      have hok0 := hok
      simp only [okQ, Bool.and_eq_true, Bool.or_eq_true, beq_iff_eq, Bool.not_eq_true'] at hok
      obtain ⟨⟨⟨he, hx⟩, hp⟩, hr⟩ := hok
      have hx5 : x = 63 ∨ x = 42 ∨ x = 43 ∨ x = 64 ∨ (x = 33 ∧ top = true) := by
        rcases hx with ⟨_, ((h | h) | h) | h⟩ | h
        · exact .inl h
        · exact .inr (.inl h)
        · exact .inr (.inr (.inl h))
        · exact .inr (.inr (.inr (.inl h)))
        · exact .inr (.inr (.inr (.inr h)))
      have hop : isOp x = true := by rcases hx5 with rfl | rfl | rfl | rfl | ⟨rfl, _⟩ <;> rfl
      have hd1 : (nums s).drop i = x :: (40 :: (prQ p ++ (41 :: (prQ r ++ t)))) := by rw [hd]; simp [prQ]
      obtain ⟨_, _, hd2⟩ := nd hd1
      obtain ⟨_, _, hd3⟩ := nd hd2
      have hd4 := nd_app hd3
      obtain ⟨hj, _, hd5⟩ := nd hd4
      simp only [qsz] at hN
      have e0 := nx_c hd1 (by omega)
      have e1 := nx_c hd2 (by omega)
      have e4 := nx_c hd4 (by omega)
      have hg := grp_q md s f N (fun q' i' t' a b c d e g => ih q' f i' false t' a b c d e g) N p (s.size + 1) (i + 1 + 1) [40] (prQ r ++ t) (by omega) (by omega) hp he hd3 (by omega) (by omega)
      rw [sb_at hd2 (by omega)] at hg
      have hnext : next md s (f + 1) i = closeG s x i (i + 1 + 1 + (prQ p).length) ([40] ++ bs (Re.pr (gq md .done false p 0 (40 == 47)))) := by
        unfold next
        rw [e0]
        simp only [e1, he, hop, Bool.and_self, beq_self_eq_true, if_true]
        rw [hg]
        simp
      have hsb := sb_at hd4 (by omega)
      have hlen : i + ((prQ p).length + 3) = i + 1 + 1 + (prQ p).length + 1 := by omega
      have hw : ∀ z, Re.pr (gq md z top (.grp x p r) 0 (sb s i)) = 40 :: (Re.pr (gq md .done false p 0 (40 == 47)) ++ 41 :: Re.prS (suOf x)) ++ Re.pr (gq md z top r 0 (sb s (i + ((prQ p).length + 3)))) := by
        intro z
        rw [hlen, hsb]
        simp [gq, Re.pr]
      rw [hnext]
      unfold closeG
      rw [e4]
      by_cases h33 : x = 33
      · subst h33
        have htop : top = true := by rcases hx5 with h | h | h | h | h <;> first | exact h.2 | (exfalso; omega)
        simp only [if_true]
        refine ⟨2, i, (prQ p).length + 3, 40 :: (Re.pr (gq md .done false p 0 (40 == 47)) ++ 41 :: Re.prS (suOf 33)), r, ?_, by omega, by rw [hlen]; exact hd5, hr, by simp [qsz]; omega, hw, .inr ⟨htop, rfl, rfl, ?_⟩⟩
        · rw [hlen]; simp [bs, suOf, Re.prS]
        · simp [negs]; omega
      · simp only [if_neg h33]
        have hng : negs i (.grp x p r) = negs (i + ((prQ p).length + 3)) r := by simp [negs, h33]
        by_cases h64 : x = 64
        · subst h64
          simp only [if_true]
          refine ⟨0, 0, (prQ p).length + 3, 40 :: (Re.pr (gq md .done false p 0 (40 == 47)) ++ 41 :: Re.prS (suOf 64)), r, ?_, by omega, by rw [hlen]; exact hd5, hr, by simp [qsz]; omega, hw, .inl ⟨rfl, hng⟩⟩
          rw [hlen]; simp [bs, suOf, Re.prS]
        · simp only [if_neg h64]
          refine ⟨0, 0, (prQ p).length + 3, 40 :: (Re.pr (gq md .done false p 0 (40 == 47)) ++ 41 :: Re.prS (suOf x)), r, ?_, by omega, by rw [hlen]; exact hd5, hr, by simp [qsz]; omega, hw, .inl ⟨rfl, hng⟩⟩
          rw [hlen, suOf_en x (by omega)]; simp [bs]
theorem next_eof (md : Md) (s : ByteArray) (f i : Nat) (hi : s.size ≤ i) : (next md s (f + 1) i).err = 1 := by
  unfold next
  rw [nx_end s i hi]
  simp [isOp, rest]
theorem loop_q (md : Md) (s : ByteArray) : ∀ (M : Nat) (q : Q) (f i : Nat) (acc : List UInt8) (gs : List (Nat × Nat)), qsz q ≤ M → okQ md true q = true → (nums s).drop i = prQ q → s.size < f + i → i ≤ s.size →
    loopR md s f i acc gs = .done (acc ++ bs (Re.pr (gq md .done true q 0 (sb s i)))) (gs ++ negs i q) := by
  intro M
  induction M with
  | zero =>
    intro q f i acc gs hM hok hd hf hi
    cases q <;> simp [qsz] at hM
    have hz : i = s.size := by have := nd_size hd hi; simpa [prQ] using this
    obtain ⟨f, rfl⟩ : ∃ g, f = g + 1 := ⟨f - 1, by omega⟩
    unfold loopR
    rw [if_pos (next_eof md s s.size i (by omega))]
    simp [gq, Re.pr, bs, negs]
  | succ M ih =>
    intro q f i acc gs hM hok hd hf hi
    obtain ⟨f, rfl⟩ : ∃ g, f = g + 1 := ⟨f - 1, by omega⟩
    cases hne : notEnd q with
    | false =>
      cases q with
      | nil =>
        have hz : i = s.size := by have := nd_size hd hi; simpa [prQ] using this
        unfold loopR
        rw [if_pos (next_eof md s s.size i (by omega))]
        simp [gq, Re.pr, bs, negs]
      | bar r => simp [okQ] at hok
      | _ => simp [notEnd] at hne
    | true =>
      obtain ⟨er, st, n, out, q', hr, hs⟩ := step_q md s (qsz q) q (s.size + 1) i true [] (Nat.le_refl _) hok hne (by simpa using hd) (.inl ⟨rfl, rfl⟩) (by omega)
      have hsz := hs.sz
      have hn1 := hs.n1
      have hrs := hs.rest
      rw [List.append_nil] at hrs
      have hle : i + n ≤ s.size := by
        have hg := next_good md s (s.size + 1) i hi (by omega)
        by_cases hz : (nx s i).1 = 0
        · have := hg.1 hz
          rw [hr] at this
          simp only [Res.mk.injEq] at this
          rcases hs.ng with h | h <;> omega
        · have := (hg.2 hz).2
          rw [hr] at this
          simp only at this
          rcases hs.ng with h | h <;> have := this (by omega) <;> omega
      unfold loopR
      rw [hr]
      rcases hs.ng with ⟨rfl, h2⟩ | ⟨_, rfl, hst, h2⟩
      · simp only [show ¬ (0 : Nat) = 1 from by omega, if_false, if_true]
        rw [ih q' f (i + n) _ gs (by omega) hs.ok hrs (by omega) hle, hs.wr .done, h2]
        simp [bs]
      · simp only [show ¬ (2 : Nat) = 1 from by omega, show ¬ (2 : Nat) = 0 from by omega, if_false, if_true]
        rw [ih q' f (i + n) _ _ (by omega) hs.ok hrs (by omega) hle, hs.wr .done, h2]
        simp [bs, hst]
theorem gStar_z (md : Md) (top b : Bool) (r : Q) : ∃ w, ∀ z, Re.pr (gStar md top b r z) = w ++ Re.pr z := by
  have h1 : ∃ w, ∀ z, Re.pr (gTail md b z) = w ++ Re.pr z := by
    refine ⟨Re.pr (gTail md b .done), fun z => ?_⟩
    unfold gTail
    split <;> simp [Re.pr]
  have h2 : ∃ w, ∀ z, Re.pr (gSl md z) = w ++ Re.pr z := by
    refine ⟨Re.pr (gSl md .done), fun z => ?_⟩
    unfold gSl
    split <;> simp [Re.pr]
  unfold gStar
  split
  · split
    · split
      · split
        · exact ⟨40 :: (Re.pr (gSl md (.ato (.lit 47) .one .done)) ++ [41, 63]), fun z => by simp [Re.pr, Re.prS]⟩
        · exact h2
      · exact h1
    · exact h1
  · exact ⟨[46, 42], fun z => by simp [Re.pr, Re.prA, Re.prS]⟩
theorem gq_z (md : Md) : ∀ (q : Q) (top : Bool) (n : Nat) (b : Bool), ∃ w, ∀ z, Re.pr (gq md z top q n b) = w ++ Re.pr z
  | .nil, top, n, b => ⟨[], fun z => by cases n <;> rfl⟩
  | .bar r, top, n, b => by
    cases n with
    | zero => obtain ⟨w, h⟩ := gq_z md r top 0 false; exact ⟨124 :: w, fun z => by simp [gq, Re.pr, h]⟩
    | succ n => obtain ⟨w, h⟩ := gq_z md r top n false; exact ⟨w, fun z => h z⟩
  | .ch e c r, top, n, b => by
    cases n with
    | zero => obtain ⟨w, h⟩ := gq_z md r top 0 (c == 47); exact ⟨Re.prA (gCh c) ++ w, fun z => by simp [gq, Re.pr, Re.prS, h]⟩
    | succ n => obtain ⟨w, h⟩ := gq_z md r top n (c == 47); exact ⟨w, fun z => h z⟩
  | .any r, top, n, b => by
    cases n with
    | zero => obtain ⟨w, h⟩ := gq_z md r top 0 false; exact ⟨Re.prA (gAny md) ++ w, fun z => by simp [gq, Re.pr, Re.prS, h]⟩
    | succ n => obtain ⟨w, h⟩ := gq_z md r top n false; exact ⟨w, fun z => h z⟩
  | .star r, top, n, b => by
    cases n with
    | zero =>
      obtain ⟨w, h⟩ := gq_z md r top (skN md top b r) false
      obtain ⟨w2, h2⟩ := gStar_z md top b r
      exact ⟨w2 ++ w, fun z => by rw [gq_star0, h2, h, List.append_assoc]⟩
    | succ n => obtain ⟨w, h⟩ := gq_z md r top n false; exact ⟨w, fun z => h z⟩
  | .cls neg is r, top, n, b => by
    cases n with
    | zero => obtain ⟨w, h⟩ := gq_z md r top 0 false; exact ⟨Re.prA (.cls neg is) ++ w, fun z => by simp [gq, Re.pr, Re.prS, h]⟩
    | succ n => obtain ⟨w, h⟩ := gq_z md r top n false; exact ⟨w, fun z => h z⟩
  | .grp x i r, top, n, b => by
    cases n with
    | zero => obtain ⟨w, h⟩ := gq_z md r top 0 false; exact ⟨40 :: (Re.pr (gq md .done false i 0 false) ++ 41 :: (Re.prS (suOf x) ++ w)), fun z => by simp [gq, Re.pr, h]⟩
    | succ n => obtain ⟨w, h⟩ := gq_z md r top n false; exact ⟨w, fun z => h z⟩
theorem gq_pr (md : Md) (z : G) (q : Q) (top : Bool) (n : Nat) (b : Bool) : Re.pr (gq md z top q n b) = Re.pr (gq md .done top q n b) ++ Re.pr z := by
  obtain ⟨w, h⟩ := gq_z md q top n b
  rw [h z, h .done]; simp [Re.pr]
def gFull (md : Md) (ent nc sho : Bool) (q : Q) : G := .flg nc sho (if ent then .ato .beg .one (gq md (.ato .fin .one .done) true q 0 true) else gq md .done true q 0 true)
theorem pr_full (md : Md) (ent nc sho : Bool) (q : Q) : bs (Re.pr (gFull md ent nc sho q)) = hdr ent nc sho ++ bs (Re.pr (gq md .done true q 0 true)) ++ (if ent then [36] else []) := by
  have e := gq_pr md (.ato .fin .one .done) q true 0 true
  cases ent <;> cases nc <;> cases sho <;> simp [gFull, Re.pr, Re.prF, Re.prA, Re.prS, e, hdr, bs]
theorem reg_q (md : Md) (ent nc sho : Bool) (s : ByteArray) (q : Q) (hn : nums s = prQ q) (hok : okQ md true q = true) (hsc : (ent || nc) = true ∨ shc s (s.size + 1) 0 = true) :
    regexpM md ent nc sho s = if negs 0 q = [] then .ok (bs (Re.pr (gFull md ent nc sho q))) else .neg (negs 0 q) := by
  have hl := loop_q md s (qsz q) q (s.size + 1) 0 (hdr ent nc sho) [] (Nat.le_refl _) hok hn (by omega) (by omega)
  unfold regexpM
  rw [if_neg (by rintro ⟨h1, h2⟩; rcases hsc with h3 | h3; rw [h1] at h3; cases h3; rw [h2] at h3; cases h3), hl]
  simp only [rOut, List.nil_append]
  split
  · rw [pr_full]; rfl
  · rfl
theorem full_ok (md : Md) (ent nc sho : Bool) (q : Q) (hok : okQ md true q = true) : (gFull md ent nc sho q).ok = true ∧ Re.noBar (gFull md ent nc sho q) := by
  cases ent
  · exact ⟨gq_ok md q .done true 0 true rfl hok, gq_noBar md q .done 0 true trivial hok⟩
  · exact ⟨gq_ok md q (.ato .fin .one .done) true 0 true rfl hok, gq_noBar md q (.ato .fin .one .done) 0 true trivial hok⟩
theorem full_len (md : Md) (ent nc sho : Bool) (q : Q) : (Re.pr (gFull md ent nc sho q)).length ≤ 20 * (prQ q).length + 10 := by
  have h1 := gq_len md q .done true 0 true
  have h2 := congrArg List.length (pr_full md ent nc sho q)
  have e : (Re.pr .done).length = 0 := rfl
  rw [e] at h1
  simp only [bs_len, List.length_append] at h2
  have h3 : (hdr ent nc sho).length ≤ 7 := by cases ent <;> cases nc <;> cases sho <;> decide
  have h4 : (if ent = true then [(36 : UInt8)] else []).length ≤ 1 := by split <;> simp
  omega
theorem shc_iff (s : ByteArray) (h : ∀ c ∈ nums s, c < 128) : ∀ (f i : Nat), s.size < f + i → i ≤ s.size → (shc s f i = true ↔ ∃ c ∈ (nums s).drop i, rmeta c = true)
  | 0, i, hf, hi => by omega
  | f + 1, i, hf, hi => by
    unfold shc
    by_cases hl : i < s.size
    · have hc : (s[i]).toNat < 128 := h _ (by
        have : (s[i]).toNat ∈ (nums s).drop i := by rw [nums_drop s i hl]; simp
        exact List.mem_of_mem_drop this)
      rw [if_pos hl, dec_at s i hl hc, nums_drop s i hl, Bool.or_eq_true, shc_iff s h f (i + 1) (by omega) (by omega)]
      simp
    · rw [if_neg hl, List.drop_of_length_le (by rw [nums_len]; omega)]; simp
end Go.Proofs.YtpfgmiocdgfniaaGreatFmt

namespace Go.Proofs.YtpfgmiocdgfniaaGreatFmt
open Go.RowKit
structure It where
  cls : Int
  lo : Int
  hi : Int
structure PF where
  kind : Int
  text : ByteArray
  neg : Bool
  items : List It
  sign : Int
def PT : Nat → Type
  | 0 => PF
  | n + 1 => PF × List (List (PT n))
def PT.f : (n : Nat) → PT n → PF
  | 0, p => p
  | _ + 1, p => p.1
def SliceAt (v : Value) (len b o : Nat) : Prop := (len = 0 ∧ ∃ a c, v = .slice a 0 c) ∨ ∃ c, v = .slice (some ⟨b, o, none⟩) len c
def ItemsAt (w : World) (v : Value) (its : List It) : Prop :=
  ∃ b o, SliceAt v its.length b o ∧ its.length ≤ 70368744177664 ∧ ∀ i (h : i < its.length), w.cell? ⟨b, o + i * 3, none⟩ = some (.int .i64 its[i].cls) ∧ w.cell? ⟨b, o + i * 3 + 1, none⟩ = some (.int .u8 its[i].lo) ∧ w.cell? ⟨b, o + i * 3 + 2, none⟩ = some (.int .u8 its[i].hi) ∧ 0 ≤ its[i].lo ∧ its[i].lo ≤ 255 ∧ 0 ≤ its[i].hi ∧ its[i].hi ≤ 255
def FlatAt (w : World) (b o : Nat) (p : PF) (vl : Value) : Prop :=
  ∃ vi, w.cell? ⟨b, o, none⟩ = some (.int .i64 p.kind) ∧ w.cell? ⟨b, o + 1, none⟩ = some (.string p.text) ∧ w.cell? ⟨b, o + 2, none⟩ = some (.bool p.neg) ∧ w.cell? ⟨b, o + 3, none⟩ = some vi ∧ w.cell? ⟨b, o + 4, none⟩ = some (.int .u8 p.sign) ∧ w.cell? ⟨b, o + 5, none⟩ = some vl ∧ p.text.size ≤ maxLen ∧ ItemsAt w vi p.items ∧ 0 ≤ p.sign ∧ p.sign ≤ 255
def PiecesAt : (n : Nat) → World → Value → List (PT n) → Prop
  | 0, w, v, ps => ∃ b o, SliceAt v ps.length b o ∧ ps.length ≤ 70368744177664 ∧ ∀ i (h : i < ps.length), ∃ a c, FlatAt w b (o + i * 6) ps[i] (.slice a 0 c)
  | n + 1, w, v, ps => ∃ b o, SliceAt v ps.length b o ∧ ps.length ≤ 70368744177664 ∧ ∀ i (h : i < ps.length), ∃ vl, FlatAt w b (o + i * 6) ps[i].1 vl ∧
      ∃ b2 o2, SliceAt vl ps[i].2.length b2 o2 ∧ ps[i].2.length ≤ 70368744177664 ∧ ∀ j (h2 : j < ps[i].2.length), ∃ vj, w.cell? ⟨b2, o2 + j, none⟩ = some vj ∧ PiecesAt n w vj ps[i].2[j]
theorem cell_kept {w w' : World} (h : Below w.heap.size w w') {b o : Nat} {v : Value} (hc : w.cell? ⟨b, o, none⟩ = some v) : w'.cell? ⟨b, o, none⟩ = some v := by
  rw [h.cell (p := ⟨b, o, none⟩) (World.block_lt_of_cell? _ _ hc)]; exact hc
theorem ItemsAt.kept {w w' : World} (h : Below w.heap.size w w') {v : Value} {its : List It} (hi : ItemsAt w v its) : ItemsAt w' v its := by
  obtain ⟨b, o, hs, hl, hc⟩ := hi
  refine ⟨b, o, hs, hl, fun i hi => ?_⟩
  obtain ⟨h1, h2, h3, h4⟩ := hc i hi
  exact ⟨cell_kept h h1, cell_kept h h2, cell_kept h h3, h4⟩
theorem FlatAt.kept {w w' : World} (h : Below w.heap.size w w') {b o : Nat} {p : PF} {vl : Value} (hi : FlatAt w b o p vl) : FlatAt w' b o p vl := by
  obtain ⟨vi, h1, h2, h3, h4, h5, h6, h7, h8, h9⟩ := hi
  exact ⟨vi, cell_kept h h1, cell_kept h h2, cell_kept h h3, cell_kept h h4, cell_kept h h5, cell_kept h h6, h7, h8.kept h, h9⟩
theorem PiecesAt.kept {w w' : World} (h : Below w.heap.size w w') : ∀ (n : Nat) {v : Value} {ps : List (PT n)}, PiecesAt n w v ps → PiecesAt n w' v ps
  | 0, v, ps, ⟨b, o, hs, hl, hc⟩ => ⟨b, o, hs, hl, fun i hi => by
      obtain ⟨a, c, hf⟩ := hc i hi
      exact ⟨a, c, hf.kept h⟩⟩
  | n + 1, v, ps, ⟨b, o, hs, hl, hc⟩ => ⟨b, o, hs, hl, fun i hi => by
      obtain ⟨vl, hf, b2, o2, hs2, hl2, hc2⟩ := hc i hi
      refine ⟨vl, hf.kept h, b2, o2, hs2, hl2, fun j hj => ?_⟩
      obtain ⟨vj, hv, hp⟩ := hc2 j hj
      exact ⟨vj, cell_kept h hv, PiecesAt.kept h n hp⟩⟩
namespace Pat
def textL (l : List UInt8) : Bool := l.all fun c => decide (32 ≤ c.toNat ∧ c.toNat ≤ 126)
def safeI (n : Int) : Bool := letterI n || n == 95 || n == 47 || n == 46 || n == 44 || n == 58 || n == 61 || n == 126 || n == 37 || n == 32
def itemI (i : It) : Bool :=
  if i.cls = 0 then (i.lo == i.hi && safeI i.lo && i.lo != 47 && i.lo != 46 && i.lo != 58 && i.lo != 61) || (decide (i.lo ≤ i.hi) && ((decide (48 ≤ i.lo) && decide (i.hi ≤ 57)) || (decide (97 ≤ i.lo) && decide (i.hi ≤ 122)) || (decide (65 ≤ i.lo) && decide (i.hi ≤ 90))))
  else decide (1 ≤ i.cls) && decide (i.cls ≤ 12)
def signB (nt : Bool) (s : Int) : Bool := s == 63 || s == 42 || s == 43 || s == 64 || (s == 33 && nt)
def okFlat (p : PF) : Bool :=
  if p.kind = 1 then textL p.text.data.toList
  else if p.kind = 2 ∨ p.kind = 3 then true
  else if p.kind = 4 then p.items.all itemI && !p.items.isEmpty
  else false
def okP : (n : Nat) → Bool → Bool → Int → List (PT n) → Bool
  | 0, _, _, d, ps => !decide (3 < d) && ps.all fun p => okFlat p
  | n + 1, g, nt, d, ps => !decide (3 < d) && ps.all fun p => if p.1.kind = 5 then g && !p.2.isEmpty && signB nt p.1.sign && p.2.all (okP n g nt (d + 1)) else okFlat p.1
end Pat
end Go.Proofs.YtpfgmiocdgfniaaGreatFmt

namespace Go.Proofs.YtpfgmiocdgfniaaGreatFmt
def dgB (c : Nat) : Bool := decide (48 ≤ c) && decide (c ≤ 57)
def loB (c : Nat) : Bool := decide (97 ≤ c) && decide (c ≤ 122)
def upB (c : Nat) : Bool := decide (65 ≤ c) && decide (c ≤ 90)
def inB : Nat → Nat → Bool
  | 1, c => dgB c || loB c || upB c
  | 2, c => loB c || upB c
  | 3, c => c == 32 || c == 9
  | 4, c => decide (c < 32) || c == 127
  | 5, c => dgB c
  | 6, c => decide (32 < c) && decide (c < 127)
  | 7, c => loB c
  | 8, c => decide (32 ≤ c) && decide (c < 127)
  | 9, c => decide (32 < c) && decide (c < 127) && !dgB c && !loB c && !upB c
  | 10, c => c == 32 || (decide (9 ≤ c) && decide (c ≤ 13))
  | 11, c => upB c
  | 12, c => dgB c || (decide (97 ≤ c) && decide (c ≤ 102)) || (decide (65 ≤ c) && decide (c ≤ 70))
  | _, _ => false
theorem inB_0 (c : Nat) : inB 0 c = true ↔ False := by simp [inB]
theorem inB_1 (c : Nat) : inB 1 c = true ↔ (48 ≤ c ∧ c ≤ 57) ∨ (97 ≤ c ∧ c ≤ 122) ∨ (65 ≤ c ∧ c ≤ 90) := by simp [inB, dgB, loB, upB] <;> omega
theorem inB_2 (c : Nat) : inB 2 c = true ↔ (97 ≤ c ∧ c ≤ 122) ∨ (65 ≤ c ∧ c ≤ 90) := by simp [inB, loB, upB]
theorem inB_3 (c : Nat) : inB 3 c = true ↔ c = 32 ∨ c = 9 := by simp [inB]
theorem inB_4 (c : Nat) : inB 4 c = true ↔ c < 32 ∨ c = 127 := by simp [inB]
theorem inB_5 (c : Nat) : inB 5 c = true ↔ 48 ≤ c ∧ c ≤ 57 := by simp [inB, dgB]
theorem inB_6 (c : Nat) : inB 6 c = true ↔ 32 < c ∧ c < 127 := by simp [inB]
theorem inB_7 (c : Nat) : inB 7 c = true ↔ 97 ≤ c ∧ c ≤ 122 := by simp [inB, loB]
theorem inB_8 (c : Nat) : inB 8 c = true ↔ 32 ≤ c ∧ c < 127 := by simp [inB]
theorem inB_9 (c : Nat) : inB 9 c = true ↔ 32 < c ∧ c < 127 ∧ (c < 48 ∨ 57 < c) ∧ (c < 97 ∨ 122 < c) ∧ (c < 65 ∨ 90 < c) := by simp [inB, dgB, loB, upB] <;> omega
theorem inB_10 (c : Nat) : inB 10 c = true ↔ c = 32 ∨ (9 ≤ c ∧ c ≤ 13) := by simp [inB]
theorem inB_11 (c : Nat) : inB 11 c = true ↔ 65 ≤ c ∧ c ≤ 90 := by simp [inB, upB]
theorem inB_12 (c : Nat) : inB 12 c = true ↔ (48 ≤ c ∧ c ≤ 57) ∨ (97 ≤ c ∧ c ≤ 102) ∨ (65 ≤ c ∧ c ≤ 70) := by simp [inB, dgB] <;> omega
theorem clsB_inB (k c : Nat) (hc : c < 128) : Re.clsB k c = inB k c := by
  have h : k = 1 ∨ k = 2 ∨ k = 3 ∨ k = 4 ∨ k = 5 ∨ k = 6 ∨ k = 7 ∨ k = 8 ∨ k = 9 ∨ k = 10 ∨ k = 11 ∨ k = 12 ∨ k = 0 ∨ 12 < k := by omega
  rcases h with rfl | rfl | rfl | rfl | rfl | rfl | rfl | rfl | rfl | rfl | rfl | rfl | rfl | h
  · rw [Bool.eq_iff_iff, inB_1]; simp [Re.clsB, Re.clsR] <;> omega
  · rw [Bool.eq_iff_iff, inB_2]; simp [Re.clsB, Re.clsR] <;> omega
  · rw [Bool.eq_iff_iff, inB_3]; simp [Re.clsB, Re.clsR] <;> omega
  · rw [Bool.eq_iff_iff, inB_4]; simp [Re.clsB, Re.clsR] <;> omega
  · rw [Bool.eq_iff_iff, inB_5]; simp [Re.clsB, Re.clsR] <;> omega
  · rw [Bool.eq_iff_iff, inB_6]; simp [Re.clsB, Re.clsR] <;> omega
  · rw [Bool.eq_iff_iff, inB_7]; simp [Re.clsB, Re.clsR] <;> omega
  · rw [Bool.eq_iff_iff, inB_8]; simp [Re.clsB, Re.clsR] <;> omega
  · rw [Bool.eq_iff_iff, inB_9]; simp [Re.clsB, Re.clsR] <;> omega
  · rw [Bool.eq_iff_iff, inB_10]; simp [Re.clsB, Re.clsR] <;> omega
  · rw [Bool.eq_iff_iff, inB_11]; simp [Re.clsB, Re.clsR] <;> omega
  · rw [Bool.eq_iff_iff, inB_12]; simp [Re.clsB, Re.clsR] <;> omega
  · rfl
  · obtain ⟨m, rfl⟩ : ∃ m, k = m + 13 := ⟨k - 13, by omega⟩
    rfl
end Go.Proofs.YtpfgmiocdgfniaaGreatFmt

namespace Go.Proofs.YtpfgmiocdgfniaaGreatFmt
open Go.RowKit
open Re (Bd timesR asc)
def grpR (x : Nat) (R : Nat → Nat → Prop) (i j : Nat) : Prop := if x = 63 then timesR R 0 1 i j else if x = 42 then timesR R 0 (-1) i j else if x = 43 then timesR R 1 (-1) i j else R i j
def chT (fold : Bool) (d c : Nat) : Bool := c == d || (fold && Re.oth c == d)
def byteR (s : List UInt8) (p : Nat → Bool) (i : Nat) : Prop := ∃ x, s[i]? = some x ∧ p x.toNat = true
theorem byteR_lt {s : List UInt8} {p : Nat → Bool} {i : Nat} (h : byteR s p i) : i < s.length := by
  obtain ⟨x, hx, _⟩ := h; exact (List.getElem?_eq_some_iff.1 hx).1
theorem Bd.times {N : Nat} {R : Nat → Nat → Prop} (h : Bd N R) (l m : Int) : Bd N (timesR R l m) := by
  rintro i j hi ⟨n, _, _, hp⟩; exact h.pow n i j hi hp
theorem Bd.grp {N : Nat} {R : Nat → Nat → Prop} (h : Bd N R) (x : Nat) : Bd N (grpR x R) := by
  intro i j hi hr
  unfold grpR at hr
  split at hr
  · exact Bd.times h _ _ i j hi hr
  split at hr
  · exact Bd.times h _ _ i j hi hr
  split at hr
  · exact Bd.times h _ _ i j hi hr
  · exact h i j hi hr
def inI1 (i : It) (x : Nat) : Bool := (decide (i.cls = 0) && (decide (i.lo ≤ (x : Int)) && decide ((x : Int) ≤ i.hi))) || inB i.cls.toNat x
def inI (is : List It) (c : Nat) (fold : Bool) : Bool := is.any fun i => inI1 i c || ((Re.oth c == c || fold) && inI1 i (Re.oth c))
def byteF (fold files : Bool) (p : PF) (c : Nat) : Bool := !(files && c == 47) && (!decide (p.kind = 4) || (inI p.items c fold != p.neg))
def txtR (s : List UInt8) (fold : Bool) : List UInt8 → Nat → Nat → Prop
  | [], i, j => i = j
  | c :: l, i, j => byteR s (chT fold c.toNat) i ∧ txtR s fold l (i + 1) j
theorem txtR_len {s : List UInt8} {fold : Bool} : ∀ {l : List UInt8} {i j : Nat}, txtR s fold l i j → j = i + l.length
  | [], i, j, h => by cases (show i = j from h); rfl
  | c :: l, i, j, h => by
    have := txtR_len h.2
    simp only [List.length_cons]; omega
def relF (s : List UInt8) (fold files : Bool) (p : PF) (i j : Nat) : Prop :=
  if p.kind = 1 then txtR s fold p.text.data.toList i j
  else if p.kind = 2 ∨ p.kind = 4 then j = i + 1 ∧ byteR s (byteF fold files p) i
  else if p.kind = 3 then i ≤ j ∧ j ≤ s.length ∧ ∀ k, i ≤ k → k < j → byteR s (fun c => !(files && c == 47)) k
  else False
def relC {α : Type} (R : α → Nat → Nat → Prop) : List α → Nat → Nat → Prop
  | [], i, j => i = j
  | p :: ps, i, j => ∃ t, R p i t ∧ relC R ps t j
def relP (s : List UInt8) (fold files : Bool) : (n : Nat) → List (PT n) → Nat → Nat → Prop
  | 0, ps => relC (fun (p : PF) => relF s fold files p) ps
  | n + 1, ps => relC (fun (p : PF × List (List (PT n))) i j => if p.1.kind = 5 then grpR p.1.sign.toNat (fun a b => ∃ l ∈ p.2, relP s fold files n l a b) i j else relF s fold files p.1 i j) ps
theorem relC_app {α : Type} (R : α → Nat → Nat → Prop) : ∀ (a b : List α) (i j : Nat), relC R (a ++ b) i j ↔ ∃ t, relC R a i t ∧ relC R b t j
  | [], b, i, j => ⟨fun h => ⟨i, rfl, h⟩, by rintro ⟨t, rfl, h⟩; exact h⟩
  | p :: a, b, i, j => by
    show (∃ t, R p i t ∧ relC R (a ++ b) t j) ↔ ∃ t, (∃ u, R p i u ∧ relC R a u t) ∧ relC R b t j
    constructor
    · rintro ⟨u, h1, h2⟩
      obtain ⟨t, h3, h4⟩ := (relC_app R a b u j).1 h2
      exact ⟨t, ⟨u, h1, h3⟩, h4⟩
    · rintro ⟨t, ⟨u, h1, h3⟩, h4⟩
      exact ⟨u, h1, (relC_app R a b u j).2 ⟨t, h3, h4⟩⟩
theorem relF_bd (s : List UInt8) (fold files : Bool) (p : PF) : Bd s.length (relF s fold files p) := by
  intro i j hi h
  unfold relF at h
  split at h
  · have key : ∀ (l : List UInt8) i, i ≤ s.length → txtR s fold l i j → i ≤ j ∧ j ≤ s.length := by
      intro l
      induction l with
      | nil => intro i hi h; cases (show i = j from h); exact ⟨Nat.le_refl _, hi⟩
      | cons c l ih =>
        rintro i hi ⟨a, b⟩
        have := byteR_lt a
        have := ih (i + 1) (by omega) b
        omega
    exact key _ i hi h
  split at h
  · obtain ⟨rfl, h⟩ := h
    have := byteR_lt h
    omega
  split at h
  · exact ⟨h.1, h.2.1⟩
  · exact h.elim
theorem relC_bd {α : Type} {N : Nat} (R : α → Nat → Nat → Prop) (h : ∀ p, Bd N (R p)) : ∀ l, Bd N (relC R l)
  | [], i, j, hi, e => by cases (show i = j from e); exact ⟨Nat.le_refl _, hi⟩
  | p :: l, i, j, hi, ⟨t, a, b⟩ => by
    have h1 := h p i t hi a
    have h2 := relC_bd R h l t j h1.2 b
    omega
theorem relP_bd (s : List UInt8) (fold files : Bool) : ∀ (n : Nat) (ps : List (PT n)), Bd s.length (relP s fold files n ps)
  | 0, ps => relC_bd (α := PF) _ (fun p => relF_bd s fold files p) ps
  | n + 1, ps => relC_bd (α := PF × List (List (PT n))) _ (fun p i j hi h => by
      split at h
      · refine Bd.grp (N := s.length) (fun a b ha h2 => ?_) _ i j hi h
        obtain ⟨l, _, hl⟩ := h2
        exact relP_bd s fold files n l a b ha hl
      · exact relF_bd s fold files p.1 i j hi h) ps
end Go.Proofs.YtpfgmiocdgfniaaGreatFmt

namespace Go.Proofs.YtpfgmiocdgfniaaGreatFmt
open Go.RowKit Go.Extern
open Re (G Ato Su CI gl sq fnd asc Bd timesR)
structure Rl where
  seq : Nat → Nat → Prop
  alt : Nat → Nat → Prop
def Rl.all (R : Rl) (i j : Nat) : Prop := R.seq i j ∨ R.alt i j
def clsT (neg : Bool) (is : List CI) (fold : Bool) (c : Nat) : Bool := (Re.isHas is c || (fold && Re.isHas is (Re.oth c))) != neg
def semQ (s : List UInt8) (fold : Bool) : Q → Rl
  | .nil => ⟨fun i j => i = j, fun _ _ => False⟩
  | .bar r => ⟨fun i j => i = j, fun i j => (semQ s fold r).all i j⟩
  | .ch e c r => ⟨fun i j => byteR s (chT fold c) i ∧ (semQ s fold r).seq (i + 1) j, (semQ s fold r).alt⟩
  | .any r => ⟨fun i j => i < s.length ∧ (semQ s fold r).seq (i + 1) j, (semQ s fold r).alt⟩
  | .star r => ⟨fun i j => ∃ t, i ≤ t ∧ t ≤ s.length ∧ (semQ s fold r).seq t j, (semQ s fold r).alt⟩
  | .cls neg is r => ⟨fun i j => byteR s (clsT neg is fold) i ∧ (semQ s fold r).seq (i + 1) j, (semQ s fold r).alt⟩
  | .grp x i r => ⟨fun a j => ∃ t, grpR x (semQ s fold i).all a t ∧ (semQ s fold r).seq t j, (semQ s fold r).alt⟩
theorem semQ_bd (s : List UInt8) (fold : Bool) : ∀ q : Q, Bd s.length (semQ s fold q).seq ∧ Bd s.length (semQ s fold q).alt
  | .nil => ⟨fun i j hi h => by cases h; exact ⟨Nat.le_refl _, hi⟩, fun _ _ _ h => h.elim⟩
  | .bar r => by
    obtain ⟨h1, h2⟩ := semQ_bd s fold r
    exact ⟨fun i j hi h => by cases h; exact ⟨Nat.le_refl _, hi⟩, fun i j hi h => h.elim (h1 i j hi) (h2 i j hi)⟩
  | .ch e c r => by
    obtain ⟨h1, h2⟩ := semQ_bd s fold r
    refine ⟨fun i j hi h => ?_, h2⟩
    have a := byteR_lt h.1
    have := h1 (i + 1) j (by omega) h.2
    omega
  | .any r => by
    obtain ⟨h1, h2⟩ := semQ_bd s fold r
    refine ⟨fun i j hi h => ?_, h2⟩
    have a := h.1
    have := h1 (i + 1) j (by omega) h.2
    omega
  | .star r => by
    obtain ⟨h1, h2⟩ := semQ_bd s fold r
    refine ⟨fun i j hi h => ?_, h2⟩
    obtain ⟨t, a, b, c⟩ := h
    have := h1 t j b c
    omega
  | .cls neg is r => by
    obtain ⟨h1, h2⟩ := semQ_bd s fold r
    refine ⟨fun i j hi h => ?_, h2⟩
    have a := byteR_lt h.1
    have := h1 (i + 1) j (by omega) h.2
    omega
  | .grp x p r => by
    obtain ⟨h1, h2⟩ := semQ_bd s fold r
    obtain ⟨p1, p2⟩ := semQ_bd s fold p
    refine ⟨fun i j hi h => ?_, h2⟩
    obtain ⟨t, a, c⟩ := h
    have hb : Bd s.length (semQ s fold p).all := fun i j hi h => h.elim (p1 i j hi) (p2 i j hi)
    have := Bd.grp hb x i t hi a
    have := h1 t j (by omega) c
    omega
theorem pow_congr {N : Nat} {R R' : Nat → Nat → Prop} (hb : Bd N R) (h : ∀ i j, i ≤ N → (R i j ↔ R' i j)) : ∀ n i j, i ≤ N → (Re.pow R n i j ↔ Re.pow R' n i j)
  | 0, i, j, _ => Iff.rfl
  | n + 1, i, j, hi => by
    constructor
    · rintro ⟨k, h1, h2⟩
      have := hb i k hi h1
      exact ⟨k, (h i k hi).1 h1, (pow_congr hb h n k j (by omega)).1 h2⟩
    · rintro ⟨k, h1, h2⟩
      have h1' := (h i k hi).2 h1
      have := hb i k hi h1'
      exact ⟨k, h1', (pow_congr hb h n k j (by omega)).2 h2⟩
theorem times_congr {N : Nat} {R R' : Nat → Nat → Prop} (hb : Bd N R) (h : ∀ i j, i ≤ N → (R i j ↔ R' i j)) (l m : Int) (i j : Nat) (hi : i ≤ N) : timesR R l m i j ↔ timesR R' l m i j :=
  exists_congr fun n => and_congr_right fun _ => and_congr_right fun _ => pow_congr hb h n i j hi
theorem sq_byte (s : List UInt8) (hs : asc s) (a : Ato) (p : Nat → Bool) (r : G) (f d : Bool) (i j : Nat) (h1 : (Re.ndA f d a).1 = 1) (hp : ∀ x, x < 128 → (Re.ndA f d a).2.getD x false = p x) : sq s (.ato a .one r) f d i j ↔ byteR s p i ∧ sq s r f d (i + 1) j := by
  rw [Re.sq_set s a r f d i j h1]
  refine and_congr_left fun _ => ?_
  constructor
  · rintro ⟨x, hx, hc, he⟩
    exact ⟨x, hx, by rw [← hp _ hc]; exact he⟩
  · rintro ⟨x, hx, he⟩
    have hc := hs x (List.mem_of_getElem? hx)
    exact ⟨x, hx, hc, by rw [hp _ hc]; exact he⟩
theorem sq_gch (s : List UInt8) (hs : asc s) (c : Nat) (r : G) (f d : Bool) (i j : Nat) : sq s (.ato (gCh c) .one r) f d i j ↔ byteR s (chT f c) i ∧ sq s r f d (i + 1) j := by
  refine sq_byte s hs (gCh c) (chT f c) r f d i j ?_ ?_
  · unfold gCh; split <;> rfl
  · intro x hx
    have e : (Re.ndA f d (gCh c)).2 = Re.setL (fun x => x == c) f false := by unfold gCh; split <;> rfl
    rw [e, Re.setL_get _ _ _ _ hx]
    simp [chT]
theorem sq_cls (s : List UInt8) (hs : asc s) (neg : Bool) (is : List CI) (r : G) (f d : Bool) (i j : Nat) : sq s (.ato (.cls neg is) .one r) f d i j ↔ byteR s (clsT neg is f) i ∧ sq s r f d (i + 1) j := by
  refine sq_byte s hs (.cls neg is) (clsT neg is f) r f d i j rfl ?_
  intro x hx
  show (Re.setL (Re.isHas is) f neg).getD x false = _
  rw [Re.setL_get _ _ _ _ hx]; rfl
theorem all_lists (s : List UInt8) (g : G) (f d : Bool) (i j : Nat) : (Re.rel s (Re.lists g f d)).alt i j ↔ sq s g f d i j ∨ (Re.rel s (Re.ms g f d).2).alt i j := Iff.rfl
theorem sq_suOf (s : List UInt8) (x : Nat) (g r : G) (f d : Bool) (i j : Nat) : sq s (.grp g (suOf x) r) f d i j ↔ ∃ t, grpR x (Re.rel s (Re.lists g f d)).alt i t ∧ sq s r f d t j := by
  unfold suOf grpR
  by_cases h1 : x = 63
  · simp only [if_pos h1]; exact Re.sq_grp_opt s g r f d i j
  by_cases h2 : x = 42
  · simp only [if_neg h1, if_pos h2]; exact Re.sq_grp_star s g r f d i j
  by_cases h3 : x = 43
  · simp only [if_neg h1, if_neg h2, if_pos h3]; exact Re.sq_grp_plus s g r f d i j
  · simp only [if_neg h1, if_neg h2, if_neg h3]; exact Re.sq_grp s g r f d i j
theorem ms_ato2 (a : Ato) (q : Su) (r : G) (f d : Bool) : (Re.ms (.ato a q r) f d).2 = (Re.ms r f d).2 := rfl
theorem sem_gq (s : List UInt8) (hs : asc s) (md : Md) (hf : md.fil = false) (fold : Bool) : ∀ (q : Q) (z : G) (top b : Bool), okQ md top q = true → (top = false → z = .done) →
    (∀ i j, i ≤ s.length → (sq s (gq md z top q 0 b) fold true i j ↔ ∃ t, (semQ s fold q).seq i t ∧ sq s z fold true t j)) ∧
    (top = false → ∀ i j, i ≤ s.length → ((Re.rel s (Re.ms (gq md z top q 0 b) fold true).2).alt i j ↔ (semQ s fold q).alt i j))
  | .nil, z, top, b, _, hz => by
    refine ⟨fun i j _ => ⟨fun h => ⟨i, rfl, h⟩, by rintro ⟨t, rfl, h⟩; exact h⟩, fun ht i j _ => ?_⟩
    cases hz ht; exact Iff.rfl
  | .bar r, z, top, b, hok, hz => by
    simp only [okQ, Bool.and_eq_true, Bool.not_eq_true'] at hok
    cases hz hok.1
    obtain ⟨h1, h2⟩ := sem_gq s hs md hf fold r .done top false hok.2 hz
    refine ⟨fun i j _ => ?_, fun ht i j hi => ?_⟩
    · show i = j ↔ ∃ t, i = t ∧ t = j
      exact ⟨fun h => ⟨i, rfl, h⟩, by rintro ⟨t, rfl, h⟩; exact h⟩
    · show (sq s (gq md .done top r 0 false) fold true i j ∨ (Re.rel s (Re.ms (gq md .done top r 0 false) fold true).2).alt i j) ↔ ((semQ s fold r).seq i j ∨ (semQ s fold r).alt i j)
      rw [h1 i j hi, h2 ht i j hi]
      refine or_congr_left ⟨?_, fun h => ⟨j, h, rfl⟩⟩
      rintro ⟨t, h, e⟩; cases (show t = j from e); exact h
  | .ch e c r, z, top, b, hok, hz => by
    simp only [okQ, Bool.and_eq_true] at hok
    obtain ⟨h1, h2⟩ := sem_gq s hs md hf fold r z top (c == 47) hok.2 hz
    refine ⟨fun i j hi => ?_, fun ht i j hi => h2 ht i j hi⟩
    show sq s (.ato (gCh c) .one (gq md z top r 0 (c == 47))) fold true i j ↔ ∃ t, (byteR s (chT fold c) i ∧ (semQ s fold r).seq (i + 1) t) ∧ _
    rw [sq_gch s hs]
    constructor
    · rintro ⟨hb, h⟩
      have := byteR_lt hb
      obtain ⟨t, a, b⟩ := (h1 (i + 1) j (by omega)).1 h
      exact ⟨t, ⟨hb, a⟩, b⟩
    · rintro ⟨t, ⟨hb, a⟩, b⟩
      have := byteR_lt hb
      exact ⟨hb, (h1 (i + 1) j (by omega)).2 ⟨t, a, b⟩⟩
  | .any r, z, top, b, hok, hz => by
    obtain ⟨h1, h2⟩ := sem_gq s hs md hf fold r z top false hok hz
    have hg : gAny md = .dot := by simp [gAny, hf]
    refine ⟨fun i j hi => ?_, fun ht i j hi => ?_⟩
    · show sq s (.ato (gAny md) .one (gq md z top r 0 false)) fold true i j ↔ ∃ t, (i < s.length ∧ (semQ s fold r).seq (i + 1) t) ∧ _
      rw [hg, Re.sq_dot s hs]
      constructor
      · rintro ⟨hb, h⟩
        obtain ⟨t, a, b⟩ := (h1 (i + 1) j (by omega)).1 h
        exact ⟨t, ⟨hb, a⟩, b⟩
      · rintro ⟨t, ⟨hb, a⟩, b⟩
        exact ⟨hb, (h1 (i + 1) j (by omega)).2 ⟨t, a, b⟩⟩
    · exact h2 ht i j hi
  | .star r, z, top, b, hok, hz => by
    obtain ⟨h1, h2⟩ := sem_gq s hs md hf fold r z top false hok hz
    have hk : skN md top b r = 0 := by simp [skN, hf]
    have hg : gq md z top (.star r) 0 b = .ato .dot .star (gq md z top r 0 false) := by rw [gq_star0, hk]; simp [gStar, hf]
    rw [hg]
    refine ⟨fun i j hi => ?_, fun ht i j hi => ?_⟩
    · rw [Re.sq_dotstar s hs _ _ _ _ hi]
      show _ ↔ ∃ t, (∃ u, i ≤ u ∧ u ≤ s.length ∧ (semQ s fold r).seq u t) ∧ _
      constructor
      · rintro ⟨u, a, b, h⟩
        obtain ⟨t, c, d⟩ := (h1 u j b).1 h
        exact ⟨t, ⟨u, a, b, c⟩, d⟩
      · rintro ⟨t, ⟨u, a, b, c⟩, d⟩
        exact ⟨u, a, b, (h1 u j b).2 ⟨t, c, d⟩⟩
    · exact h2 ht i j hi
  | .cls neg is r, z, top, b, hok, hz => by
    simp only [okQ, Bool.and_eq_true] at hok
    obtain ⟨h1, h2⟩ := sem_gq s hs md hf fold r z top false hok.2 hz
    refine ⟨fun i j hi => ?_, fun ht i j hi => h2 ht i j hi⟩
    show sq s (.ato (.cls neg is) .one (gq md z top r 0 false)) fold true i j ↔ ∃ t, (byteR s (clsT neg is fold) i ∧ (semQ s fold r).seq (i + 1) t) ∧ _
    rw [sq_cls s hs]
    constructor
    · rintro ⟨hb, h⟩
      have := byteR_lt hb
      obtain ⟨t, a, b⟩ := (h1 (i + 1) j (by omega)).1 h
      exact ⟨t, ⟨hb, a⟩, b⟩
    · rintro ⟨t, ⟨hb, a⟩, b⟩
      have := byteR_lt hb
      exact ⟨hb, (h1 (i + 1) j (by omega)).2 ⟨t, a, b⟩⟩
  | .grp x p r, z, top, b, hok, hz => by
    simp only [okQ, Bool.and_eq_true] at hok
    obtain ⟨h1, h2⟩ := sem_gq s hs md hf fold r z top false hok.2 hz
    obtain ⟨p1, p2⟩ := sem_gq s hs md hf fold p .done false false hok.1.2 (fun _ => rfl)
    obtain ⟨q1, q2⟩ := semQ_bd s fold p
    have hb : Bd s.length (semQ s fold p).all := fun i j hi h => h.elim (q1 i j hi) (q2 i j hi)
    have hR : ∀ i j, i ≤ s.length → ((semQ s fold p).all i j ↔ (Re.rel s (Re.lists (gq md .done false p 0 false) fold true)).alt i j) := by
      intro i j hi
      rw [all_lists, p1 i j hi, p2 rfl i j hi]
      refine or_congr_left ⟨fun h => ⟨j, h, rfl⟩, ?_⟩
      rintro ⟨t, h, e⟩; cases (show t = j from e); exact h
    have hG : ∀ i t, i ≤ s.length → (grpR x (semQ s fold p).all i t ↔ grpR x (Re.rel s (Re.lists (gq md .done false p 0 false) fold true)).alt i t) := by
      intro i t hi
      unfold grpR
      split
      · exact times_congr hb hR _ _ i t hi
      split
      · exact times_congr hb hR _ _ i t hi
      split
      · exact times_congr hb hR _ _ i t hi
      · exact hR i t hi
    refine ⟨fun i j hi => ?_, fun ht i j hi => ?_⟩
    · show sq s (.grp (gq md .done false p 0 false) (suOf x) (gq md z top r 0 false)) fold true i j ↔ ∃ t, (∃ u, grpR x (semQ s fold p).all i u ∧ (semQ s fold r).seq u t) ∧ _
      rw [sq_suOf]
      constructor
      · rintro ⟨u, a, h⟩
        have a' := (hG i u hi).2 a
        have := Bd.grp hb x i u hi a'
        obtain ⟨t, c, d⟩ := (h1 u j (by omega)).1 h
        exact ⟨t, ⟨u, a', c⟩, d⟩
      · rintro ⟨t, ⟨u, a, c⟩, d⟩
        have := Bd.grp hb x i u hi a
        exact ⟨u, (hG i u hi).1 a, (h1 u j (by omega)).2 ⟨t, c, d⟩⟩
    · exact h2 ht i j hi
theorem fnd_whole (s : List UInt8) (hs : asc s) (md : Md) (hf : md.fil = false) (nc sho : Bool) (q : Q) (hok : okQ md true q = true) : fnd s (gFull md true nc sho q) = true ↔ (semQ s nc q).seq 0 s.length := by
  rw [Re.fnd_iff s _ (full_ok md true nc sho q hok).2]
  have h := (sem_gq s hs md hf nc q (.ato .fin .one .done) true true hok (by simp)).1
  constructor
  · rintro ⟨i, j, hi, hh⟩
    rw [gFull, Re.sq_flg, if_pos rfl, Re.sq_beg, Bool.false_or] at hh
    obtain ⟨t, a, b⟩ := (h 0 j (Nat.zero_le _)).1 hh.2
    rw [Re.sq_fin] at b
    rw [← b.1]; exact a
  · intro hh
    refine ⟨0, s.length, Nat.zero_le _, ?_⟩
    rw [gFull, Re.sq_flg, if_pos rfl, Re.sq_beg, Bool.false_or]
    refine ⟨rfl, (h 0 s.length (Nat.zero_le _)).2 ⟨s.length, hh, ?_⟩⟩
    rw [Re.sq_fin, Re.sq_done]; exact ⟨rfl, rfl⟩
theorem fnd_some (s : List UInt8) (hs : asc s) (md : Md) (hf : md.fil = false) (nc sho : Bool) (q : Q) (hok : okQ md true q = true) : fnd s (gFull md false nc sho q) = true ↔ ∃ i j, i ≤ s.length ∧ (semQ s nc q).seq i j := by
  rw [Re.fnd_iff s _ (full_ok md false nc sho q hok).2]
  have h := (sem_gq s hs md hf nc q .done true true hok (by simp)).1
  refine exists_congr fun i => exists_congr fun j => and_congr_right fun hi => ?_
  rw [gFull, Re.sq_flg, if_neg (by simp), Bool.false_or]
  rw [h i j hi]
  constructor
  · rintro ⟨t, a, e⟩; cases (show t = j from e); exact a
  · intro a; exact ⟨j, a, rfl⟩
theorem short_q (md : Md) : ∀ (q : Q), okQ md true q = true → (∀ c ∈ prQ q, rmeta c = false) → ∃ l : List Nat, prQ q = l ∧ (∀ c ∈ l, c < 128) ∧ (gl l .done).ok = true ∧ ∀ (s : List UInt8), asc s → ∀ i j, i ≤ s.length → (sq s (gl l .done) false false i j ↔ (semQ s false q).seq i j)
  | .nil, _, _ => ⟨[], rfl, by simp, rfl, fun s hs i j _ => Iff.rfl⟩
  | .bar r, h, _ => by simp [okQ] at h
  | .ch e c r, h, hm => by
    simp only [okQ, Bool.and_eq_true, decide_eq_true_eq] at h
    have hm2 : ∀ c ∈ prQ r, rmeta c = false := fun d hd => hm d (by simp [prQ, hd])
    obtain ⟨l, h1, h2, h3, h4⟩ := short_q md r h.2 hm2
    cases e with
    | true => have := hm 92 (by simp [prQ, prC]); cases this
    | false =>
      have hmc := hm c (by simp [prQ, prC])
      have hlit : Re.litOk c = true := by
        have : ∀ c, c < 128 → rmeta c = false → Re.litOk c = true := by decide
        exact this c h.1.1.2 hmc
      refine ⟨c :: l, by simp [prQ, prC, h1], by intro d hd; rcases List.mem_cons.1 hd with rfl | hd; exact h.1.1.2; exact h2 d hd, by simp [gl, Re.G.ok, Re.Ato.ok, hlit, h3], fun s hs i j hi => ?_⟩
      show sq s (.ato (.lit c) .one (gl l .done)) false false i j ↔ byteR s (chT false c) i ∧ (semQ s false r).seq (i + 1) j
      rw [sq_byte s hs (.lit c) (chT false c) _ false false i j rfl (fun x hx => by
        show (Re.setL (fun x => x == c) false false).getD x false = _
        rw [Re.setL_get _ _ _ _ hx]; simp [chT])]
      refine and_congr_right fun hb => ?_
      have := byteR_lt hb
      exact h4 s hs (i + 1) j (by omega)
  | .any r, _, hm => by have := hm 63 (by simp [prQ]); cases this
  | .star r, _, hm => by have := hm 42 (by simp [prQ]); cases this
  | .cls neg is r, _, hm => by have := hm 91 (by simp [prQ, prK]); cases this
  | .grp x i r, _, hm => by have := hm 40 (by simp [prQ]); cases this
theorem prQ_lt (md : Md) : ∀ (q : Q) (top : Bool), okQ md top q = true → ∀ c ∈ prQ q, c < 128
  | .nil, _, _, c, hc => by simp [prQ] at hc
  | .bar r, top, h, c, hc => by
    simp only [okQ, Bool.and_eq_true] at h
    simp only [prQ, List.mem_cons] at hc
    rcases hc with rfl | hc
    · omega
    · exact prQ_lt md r top h.2 c hc
  | .ch e d r, top, h, c, hc => by
    simp only [okQ, Bool.and_eq_true, decide_eq_true_eq] at h
    simp only [prQ, List.mem_append] at hc
    rcases hc with hc | hc
    · unfold prC at hc
      split at hc <;> simp at hc <;> omega
    · exact prQ_lt md r top h.2 c hc
  | .any r, top, h, c, hc => by
    simp only [prQ, List.mem_cons] at hc
    rcases hc with rfl | hc
    · omega
    · exact prQ_lt md r top h c hc
  | .star r, top, h, c, hc => by
    simp only [prQ, List.mem_cons] at hc
    rcases hc with rfl | hc
    · omega
    · exact prQ_lt md r top h c hc
  | .cls neg is r, top, h, c, hc => by
    simp only [okQ, Bool.and_eq_true] at h
    simp only [prQ, List.mem_append] at hc
    rcases hc with hc | hc
    · have key : ∀ is : List CI, is.all itP = true → ∀ c ∈ Re.prIs is, c < 128 := by
        intro is
        induction is with
        | nil => intro _ c hc; simp [Re.prIs] at hc
        | cons i is ih =>
          intro hi c hc
          simp only [List.all_cons, Bool.and_eq_true] at hi
          simp only [Re.prIs, List.mem_append] at hc
          rcases hc with hc | hc
          · cases i with
            | ch d => simp only [Re.prI, List.mem_singleton] at hc; subst hc; exact (chP_ok _ hi.1).2.2.2.1
            | rng a b =>
              have h1 := hi.1
              simp only [itP, Bool.and_eq_true] at h1
              simp only [Re.prI, List.mem_cons, List.not_mem_nil, or_false] at hc
              rcases hc with rfl | rfl | rfl
              · exact (chP_ok _ h1.1.1).2.2.2.1
              · omega
              · exact (chP_ok _ h1.1.2).2.2.2.1
            | nm k =>
              have h1 := hi.1
              simp only [itP, Bool.and_eq_true, decide_eq_true_eq] at h1
              have h9 : ∀ c ∈ 91 :: 58 :: (Re.nmL k ++ [58, 93]), c < 128 := nm_cases (P := fun k => ∀ c ∈ 91 :: 58 :: (Re.nmL k ++ [58, 93]), c < 128) h1.1 h1.2 (by refine ⟨?_, ?_, ?_, ?_, ?_, ?_, ?_, ?_, ?_, ?_, ?_, ?_⟩ <;> decide)
              exact h9 c hc
          · exact ih hi.2 c hc
      simp only [prK, List.mem_cons, List.mem_append, List.not_mem_nil, or_false] at hc
      rcases hc with rfl | hc | hc | rfl
      · omega
      · split at hc <;> simp at hc; omega
      · exact key is h.1.1 c hc
      · omega
    · exact prQ_lt md r top h.2 c hc
  | .grp x i r, top, h, c, hc => by
    simp only [okQ, Bool.and_eq_true, Bool.or_eq_true, beq_iff_eq] at h
    simp only [prQ, List.mem_cons, List.mem_append] at hc
    rcases hc with rfl | rfl | hc | rfl | hc
    · omega
    · omega
    · exact prQ_lt md i false h.1.2 c hc
    · omega
    · exact prQ_lt md r top h.2 c hc
theorem whole_q (md : Md) (hf : md.fil = false) (nc sho : Bool) (s : ByteArray) (q : Q) (hn : nums s = prQ q) (hok : okQ md true q = true) (hng : negs 0 q = []) :
    ∃ g : G, regexpM md true nc sho s = .ok (bs (Re.pr g)) ∧ g.ok = true ∧ (Re.pr g).length ≤ 20 * s.size + 10 ∧ ∀ l, asc l → (fnd l g = true ↔ (semQ l nc q).seq 0 l.length) := by
  refine ⟨gFull md true nc sho q, by rw [reg_q md true nc sho s q hn hok (.inl rfl), if_pos hng], (full_ok md true nc sho q hok).1, ?_, fun l hl => fnd_whole l hl md hf nc sho q hok⟩
  have := full_len md true nc sho q
  rw [← hn, nums_len] at this; exact this
theorem part_q (md : Md) (hf : md.fil = false) (nc sho : Bool) (s : ByteArray) (q : Q) (hn : nums s = prQ q) (hok : okQ md true q = true) (hng : negs 0 q = []) :
    ∃ g : G, regexpM md false nc sho s = .ok (bs (Re.pr g)) ∧ g.ok = true ∧ (Re.pr g).length ≤ 20 * s.size + 10 ∧ ∀ l, asc l → (fnd l g = true ↔ ∃ i j, i ≤ l.length ∧ (semQ l nc q).seq i j) := by
  by_cases hsc : (false || nc) = true ∨ shc s (s.size + 1) 0 = true
  · refine ⟨gFull md false nc sho q, by rw [reg_q md false nc sho s q hn hok hsc, if_pos hng], (full_ok md false nc sho q hok).1, ?_, fun l hl => fnd_some l hl md hf nc sho q hok⟩
    have := full_len md false nc sho q
    rw [← hn, nums_len] at this; exact this
  · have hnc : nc = false := by cases nc; rfl; exact absurd (.inl rfl) hsc
    subst hnc
    have hs : shc s (s.size + 1) 0 = false := by rw [Bool.eq_false_iff]; exact fun e => hsc (.inr e)
    have hlt : ∀ c ∈ nums s, c < 128 := by rw [hn]; exact prQ_lt md q true hok
    have hm : ∀ c ∈ prQ q, rmeta c = false := by
      intro c hc
      rw [Bool.eq_false_iff]
      intro e
      have := (shc_iff s hlt (s.size + 1) 0 (by omega) (Nat.zero_le _)).2 ⟨c, by rw [hn]; exact hc, e⟩
      rw [hs] at this; cases this
    obtain ⟨l, h1, h2, h3, h4⟩ := short_q md q hok hm
    have hpr : Re.pr (gl l .done) = l := by rw [Re.pr_gl]; simp [Re.pr]
    refine ⟨gl l .done, ?_, h3, ?_, fun k hk => ?_⟩
    · unfold regexpM
      rw [if_pos ⟨rfl, hs⟩, hpr, ← h1, ← hn, bs_nums]
    · rw [hpr, ← h1, ← hn, nums_len]; omega
    · rw [Re.fnd_iff _ _ (Re.gl_noBar l .done trivial)]
      exact exists_congr fun i => exists_congr fun j => and_congr_right fun hi => h4 k hk i j hi
end Go.Proofs.YtpfgmiocdgfniaaGreatFmt
