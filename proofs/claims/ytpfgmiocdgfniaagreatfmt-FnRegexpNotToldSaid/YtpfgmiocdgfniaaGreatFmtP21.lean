/- Joined by pack.py: ReP, ReG, ReS, RdA, RdB, EnA, EnB, EnC. -/
import Derived.Test.YtpfgmiocdgfniaaGreatFmtP01
import Derived.Deep.QuietTactic
import Derived.BigQuiet
import Derived.StillTailTactics
import Derived.Deep.RegionWith
import Derived.IntWalk
import Derived.WalkSmall
import Derived.Deep.RegionHeld3
import Derived.Deep.MidRow
import Derived.Deep.AppendLies
import Derived.Deep.WholeRow
import Derived.Laws.ResultCell
import Derived.Deep.LoopGhost
import Derived.Laws.MakeOwn
set_option linter.unusedVariables false
set_option maxHeartbeats 8000000
set_option maxRecDepth 1000000
namespace Go.Proofs.YtpfgmiocdgfniaaGreatFmt.Re
inductive Fo where
  | nil
  | cons (k : Nat) (set : List Bool) (kids : Fo) (l m : Int) (rest : Fo)
def Fo.len : Fo → Nat
  | .nil => 0
  | .cons _ _ _ _ _ r => r.len + 1
def Fo.app : Fo → Fo → Fo
  | .nil, b => b
  | .cons k s d l m r, b => .cons k s d l m (r.app b)
theorem Fo.app_nil : ∀ a : Fo, a.app .nil = a
  | .nil => rfl
  | .cons k s d l m r => by rw [Fo.app, Fo.app_nil r]
theorem Fo.app_assoc : ∀ a b c : Fo, (a.app b).app c = a.app (b.app c)
  | .nil, b, c => rfl
  | .cons k s d l m r, b, c => by simp only [Fo.app, Fo.app_assoc r b c]
theorem Fo.len_app : ∀ a b : Fo, (a.app b).len = a.len + b.len
  | .nil, b => by simp [Fo.app, Fo.len]
  | .cons k s d l m r, b => by simp only [Fo.app, Fo.len, Fo.len_app r b]; omega
def bOr (a b : List Bool) : List Bool := List.zipWith (· || ·) a b
def setE (s : List UInt8) (set x : List Bool) : List Bool := false :: List.zipWith (fun (c : UInt8) (p : Bool) => p && (decide (c.toNat < 128) && set.getD c.toNat false)) s x
def falses (n : Nat) : List Bool := List.replicate n false
def begE (n : Nat) (x : List Bool) : List Bool := x.getD 0 false :: falses n
def finE (n : Nat) (x : List Bool) : List Bool := falses n ++ [x.getD n false]
def tmL (step : List Bool → List Bool) (m : Int) : Nat → Int → List Bool → List Bool → List Bool
  | 0, _, _, out => out
  | f + 1, k, now, out =>
    if m < 0 ∨ k < m then
      (if bOr out (step now) = out then out else tmL step m f (k + 1) (step now) (bOr out (step now)))
    else out
def iter (step : List Bool → List Bool) : Nat → List Bool → List Bool
  | 0, x => x
  | n + 1, x => iter step n (step x)
def timesE (step : List Bool → List Bool) (l m : Int) (n : Nat) (x : List Bool) : List Bool :=
  tmL step m (n + 2) l (iter step l.toNat x) (iter step l.toNat x)
structure Mean where
  seq : List Bool → List Bool
  alt : List Bool → List Bool → List Bool
  hd : List Bool → List Bool
def nodeE (s : List UInt8) (k : Nat) (set : List Bool) (M : Mean) (l m : Int) (x : List Bool) : List Bool :=
  if k = 1 then setE s set x
  else if k = 2 then M.seq x
  else if k = 3 then M.alt (falses (s.length + 1)) x
  else if k = 4 then timesE M.hd l m s.length x
  else if k = 5 then begE s.length x
  else if k = 6 then finE s.length x
  else falses (s.length + 1)
def mean (s : List UInt8) : Fo → Mean
  | .nil => ⟨id, fun acc _ => acc, id⟩
  | .cons k set kids l m rest =>
    ⟨fun x => (mean s rest).seq (nodeE s k set (mean s kids) l m x), fun acc x => (mean s rest).alt (bOr acc (nodeE s k set (mean s kids) l m x)) x, nodeE s k set (mean s kids) l m⟩
def trues (n : Nat) : List Bool := List.replicate n true
def foundE (s : List UInt8) (k : Nat) (set : List Bool) (kids : Fo) (l m : Int) : Bool := (nodeE s k set (mean s kids) l m (trues (s.length + 1))).any id
theorem bOr_length (a b : List Bool) (h : b.length = a.length) : (bOr a b).length = a.length := by simp [bOr, h]
theorem setE_length (s : List UInt8) (set x : List Bool) (h : x.length = s.length + 1) : (setE s set x).length = s.length + 1 := by simp [setE, h]
theorem falses_length (n : Nat) : (falses n).length = n := by simp [falses]
theorem iter_length (step : List Bool → List Bool) (N : Nat) (h : ∀ x, x.length = N → (step x).length = N) : ∀ n x, x.length = N → (iter step n x).length = N
  | 0, x, hx => hx
  | n + 1, x, hx => iter_length step N h n _ (h x hx)
theorem tmL_length (step : List Bool → List Bool) (m : Int) (N : Nat) (h : ∀ x, x.length = N → (step x).length = N) : ∀ f k now out, now.length = N → out.length = N → (tmL step m f k now out).length = N
  | 0, _, _, _, _, ho => ho
  | f + 1, k, now, out, hn, ho => by
    unfold tmL
    split
    · split
      · exact ho
      · exact tmL_length step m N h f _ _ _ (h now hn) (by rw [bOr_length _ _ (by rw [h now hn, ho])]; exact ho)
    · exact ho
def Fo.fine : Fo → Prop
  | .nil => True
  | .cons k _ kids l m rest => (k = 4 → kids.len = 1 ∧ 0 ≤ l ∧ l ≤ 1) ∧ kids.fine ∧ rest.fine
theorem nodeE_length (s : List UInt8) (k : Nat) (set : List Bool) (M : Mean) (l m : Int)
    (h1 : ∀ x, x.length = s.length + 1 → (M.seq x).length = s.length + 1) (h2 : ∀ acc x, acc.length = s.length + 1 → x.length = s.length + 1 → (M.alt acc x).length = s.length + 1) (h3 : ∀ x, x.length = s.length + 1 → (M.hd x).length = s.length + 1)
    (x : List Bool) (hx : x.length = s.length + 1) : (nodeE s k set M l m x).length = s.length + 1 := by
  unfold nodeE
  split
  · exact setE_length s set x hx
  split
  · exact h1 x hx
  split
  · exact h2 _ x (falses_length _) hx
  split
  · exact tmL_length _ _ _ h3 _ _ _ _ (iter_length _ _ h3 _ _ hx) (iter_length _ _ h3 _ _ hx)
  split
  · simp [begE, falses]
  split
  · simp [finE, falses]
  · exact falses_length _
theorem mean_length (s : List UInt8) : ∀ F : Fo, (∀ x, x.length = s.length + 1 → ((mean s F).seq x).length = s.length + 1) ∧ (∀ acc x, acc.length = s.length + 1 → x.length = s.length + 1 → ((mean s F).alt acc x).length = s.length + 1) ∧ (∀ x, x.length = s.length + 1 → ((mean s F).hd x).length = s.length + 1)
  | .nil => ⟨fun x hx => hx, fun acc x h _ => h, fun x hx => hx⟩
  | .cons k set kids l m rest => by
    obtain ⟨a1, a2, a3⟩ := mean_length s kids
    obtain ⟨b1, b2, b3⟩ := mean_length s rest
    have hn := fun x hx => nodeE_length s k set (mean s kids) l m a1 a2 a3 x hx
    refine ⟨fun x hx => b1 _ (hn x hx), fun acc x h hx => b2 _ _ ?_ hx, hn⟩
    rw [bOr_length _ _ (by rw [hn x hx, h])]; exact h
def miss (x : List Bool) : Nat := (x.filter (! ·)).length
theorem miss_le (x : List Bool) : miss x ≤ x.length := List.length_filter_le _ _
theorem miss_or : ∀ (a b : List Bool), b.length = a.length → miss (bOr a b) ≤ miss a ∧ (bOr a b ≠ a → miss (bOr a b) < miss a)
  | [], [], _ => by simp [bOr, miss]
  | [], _ :: _, h => by simp at h
  | _ :: _, [], h => by simp at h
  | p :: a, q :: b, h => by
    have ih := miss_or a b (by simpa using h)
    cases p <;> cases q <;> simp [bOr, miss] at ih ⊢ <;> first | omega | (refine ⟨by omega, fun hh => ?_⟩; have := ih.2 hh; omega) | (exact ⟨ih.1, ih.2⟩) | skip
theorem seq_app (s : List UInt8) : ∀ (a b : Fo) (x : List Bool), (mean s (a.app b)).seq x = (mean s b).seq ((mean s a).seq x)
  | .nil, b, x => rfl
  | .cons k set kids l m rest, b, x => seq_app s rest b _
theorem alt_app (s : List UInt8) : ∀ (a b : Fo) (acc x : List Bool), (mean s (a.app b)).alt acc x = (mean s b).alt ((mean s a).alt acc x) x
  | .nil, b, acc, x => rfl
  | .cons k set kids l m rest, b, acc, x => alt_app s rest b _ x
end Go.Proofs.YtpfgmiocdgfniaaGreatFmt.Re

namespace Go.Proofs.YtpfgmiocdgfniaaGreatFmt.Re
inductive CI where
  | ch (c : Nat)
  | rng (a b : Nat)
  | nm (k : Nat)
inductive Ato where
  | lit (c : Nat)
  | esc (c : Nat)
  | dot
  | beg
  | fin
  | cls (neg : Bool) (is : List CI)
inductive Su where
  | one
  | star
  | plus
  | opt
inductive G where
  | done
  | bar (r : G)
  | ato (a : Ato) (q : Su) (r : G)
  | grp (i : G) (q : Su) (r : G)
  | flg (i u : Bool) (r : G)
def nmL : Nat → List Nat
  | 1 => [97, 108, 110, 117, 109]
  | 2 => [97, 108, 112, 104, 97]
  | 3 => [98, 108, 97, 110, 107]
  | 4 => [99, 110, 116, 114, 108]
  | 5 => [100, 105, 103, 105, 116]
  | 6 => [103, 114, 97, 112, 104]
  | 7 => [108, 111, 119, 101, 114]
  | 8 => [112, 114, 105, 110, 116]
  | 9 => [112, 117, 110, 99, 116]
  | 10 => [115, 112, 97, 99, 101]
  | 11 => [117, 112, 112, 101, 114]
  | 12 => [120, 100, 105, 103, 105, 116]
  | _ => []
def prI : CI → List Nat
  | .ch c => [c]
  | .rng a b => [a, 45, b]
  | .nm k => 91 :: 58 :: (nmL k ++ [58, 93])
def prIs : List CI → List Nat
  | [] => []
  | i :: r => prI i ++ prIs r
def prA : Ato → List Nat
  | .lit c => [c]
  | .esc c => [92, c]
  | .dot => [46]
  | .beg => [94]
  | .fin => [36]
  | .cls neg is => 91 :: ((if neg then [94] else []) ++ (prIs is ++ [93]))
def prS : Su → List Nat
  | .one => []
  | .star => [42]
  | .plus => [43]
  | .opt => [63]
def prF (i u : Bool) : List Nat := 40 :: 63 :: 115 :: ((if i then [105] else []) ++ ((if u then [85] else []) ++ [41]))
def pr : G → List Nat
  | .done => []
  | .bar r => 124 :: pr r
  | .ato a q r => prA a ++ (prS q ++ pr r)
  | .grp i q r => 40 :: (pr i ++ 41 :: (prS q ++ pr r))
  | .flg i u r => prF i u ++ pr r
def ltr (n : Nat) : Bool := (decide (48 ≤ n) && decide (n ≤ 57)) || (decide (97 ≤ n) && decide (n ≤ 122)) || (decide (65 ≤ n) && decide (n ≤ 90))
def litOk (c : Nat) : Bool := decide (c < 128) && !(c == 36 || c == 40 || c == 41 || c == 42 || c == 43 || c == 46 || c == 63 || c == 91 || c == 92 || c == 94 || c == 123 || c == 124)
def escOk (c : Nat) : Bool := decide (c < 128) && !ltr c
def chOk (c : Nat) : Bool := decide (c < 128) && !(c == 45 || c == 91 || c == 92 || c == 93 || c == 94)
def CI.ok : CI → Bool
  | .ch c => chOk c
  | .rng a b => chOk a && chOk b && decide (a ≤ b)
  | .nm k => decide (1 ≤ k) && decide (k ≤ 12)
def isOk : List CI → Bool
  | [] => true
  | i :: r => i.ok && isOk r
def Ato.ok : Ato → Bool
  | .lit c => litOk c
  | .esc c => escOk c
  | .cls _ is => isOk is && !is.isEmpty
  | _ => true
def G.ok : G → Bool
  | .done => true
  | .bar r => r.ok
  | .ato a _ r => a.ok && r.ok
  | .grp i _ r => i.ok && r.ok
  | .flg _ _ r => r.ok
def hdOk : List Nat → Bool
  | [] => true
  | c :: _ => !(c == 42 || c == 43 || c == 63 || c == 123)
def oth (c : Nat) : Nat := if 97 ≤ c ∧ c ≤ 122 then c - 32 else if 65 ≤ c ∧ c ≤ 90 then c + 32 else c
def setL (p : Nat → Bool) (fold neg : Bool) : List Bool := (List.range 128).map fun c => (p c || (fold && p (oth c))) != neg
theorem setL_length (p : Nat → Bool) (fold neg : Bool) : (setL p fold neg).length = 128 := by simp [setL]
def clsR : Nat → List (Nat × Nat)
  | 1 => [(48, 57), (65, 90), (97, 122)]
  | 2 => [(65, 90), (97, 122)]
  | 3 => [(9, 9), (32, 32)]
  | 4 => [(0, 31), (127, 127)]
  | 5 => [(48, 57)]
  | 6 => [(33, 126)]
  | 7 => [(97, 122)]
  | 8 => [(32, 126)]
  | 9 => [(33, 47), (58, 64), (91, 96), (123, 126)]
  | 10 => [(9, 13), (32, 32)]
  | 11 => [(65, 90)]
  | 12 => [(48, 57), (65, 70), (97, 102)]
  | _ => []
def clsB (k c : Nat) : Bool := (clsR k).any fun r => decide (r.1 ≤ c) && decide (c ≤ r.2)
def CI.has : CI → Nat → Bool
  | .ch d, c => c == d
  | .rng a b, c => decide (a ≤ c) && decide (c ≤ b)
  | .nm k, c => clsB k c
def isHas (is : List CI) (c : Nat) : Bool := is.any (CI.has · c)
abbrev no128 : List Bool := falses 128
def ndA (fold dot : Bool) : Ato → Nat × List Bool
  | .lit c => (1, setL (fun x => x == c) fold false)
  | .esc c => (1, setL (fun x => x == c) fold false)
  | .dot => (1, setL (fun x => dot || x != 10) false false)
  | .beg => (5, no128)
  | .fin => (6, no128)
  | .cls neg is => (1, setL (isHas is) fold neg)
def sfx (q : Su) (k : Nat) (set : List Bool) (kids rest : Fo) : Fo :=
  match q with
  | .one => .cons k set kids 0 0 rest
  | .star => .cons 4 no128 (.cons k set kids 0 0 .nil) 0 (-1) rest
  | .plus => .cons 4 no128 (.cons k set kids 0 0 .nil) 1 (-1) rest
  | .opt => .cons 4 no128 (.cons k set kids 0 0 .nil) 0 1 rest
def ms : G → Bool → Bool → Fo × Fo
  | .done, _, _ => (.nil, .nil)
  | .bar r, fold, dot => (.nil, .cons 2 no128 (ms r fold dot).1 0 0 (ms r fold dot).2)
  | .ato a q r, fold, dot => (sfx q (ndA fold dot a).1 (ndA fold dot a).2 .nil (ms r fold dot).1, (ms r fold dot).2)
  | .grp i q r, fold, dot => (sfx q 3 no128 (.cons 2 no128 (ms i fold dot).1 0 0 (ms i fold dot).2) (ms r fold dot).1, (ms r fold dot).2)
  | .flg i u r, fold, dot => (.cons 2 no128 .nil 0 0 (ms r (fold || i) true).1, (ms r (fold || i) true).2)
def lists (g : G) (fold dot : Bool) : Fo := .cons 2 no128 (ms g fold dot).1 0 0 (ms g fold dot).2
theorem ndA_length (fold dot : Bool) (a : Ato) : (ndA fold dot a).2.length = 128 := by
  cases a <;> simp [ndA, setL, falses]
theorem hd_lit {c : Nat} (h : litOk c = true) (l : List Nat) : hdOk (c :: l) = true := by
  simp only [litOk, Bool.and_eq_true, Bool.not_eq_true', Bool.or_eq_false_iff] at h
  simp [hdOk, h.2]
theorem hd_pr : ∀ (g : G) (l : List Nat), g.ok = true → hdOk l = true → hdOk (pr g ++ l) = true
  | .done, l, _, h => h
  | .bar r, l, _, _ => rfl
  | .ato a q r, l, hg, _ => by
    simp only [G.ok, Bool.and_eq_true] at hg
    cases a with
    | lit c => exact hd_lit hg.1 _
    | _ => rfl
  | .grp i q r, l, _, _ => rfl
  | .flg i u r, l, _, _ => rfl
theorem sfx_app (q : Su) (k : Nat) (set : List Bool) (kids r b : Fo) : (sfx q k set kids r).app b = sfx q k set kids (r.app b) := by
  cases q <;> rfl
end Go.Proofs.YtpfgmiocdgfniaaGreatFmt.Re

namespace Go.Proofs.YtpfgmiocdgfniaaGreatFmt.Re
structure Rel where
  seq : Nat → Nat → Prop
  alt : Nat → Nat → Prop
  hd : Nat → Nat → Prop
def pow (R : Nat → Nat → Prop) : Nat → Nat → Nat → Prop
  | 0, i, j => i = j
  | n + 1, i, j => ∃ k, R i k ∧ pow R n k j
def setR (s : List UInt8) (set : List Bool) (i j : Nat) : Prop := j = i + 1 ∧ ∃ c, s[i]? = some c ∧ c.toNat < 128 ∧ set.getD c.toNat false = true
def timesR (R : Nat → Nat → Prop) (l m : Int) (i j : Nat) : Prop := ∃ n : Nat, l ≤ n ∧ (m < 0 ∨ (n : Int) ≤ m) ∧ pow R n i j
def nodeR (s : List UInt8) (k : Nat) (set : List Bool) (R : Rel) (l m : Int) (i j : Nat) : Prop :=
  if k = 1 then setR s set i j
  else if k = 2 then R.seq i j
  else if k = 3 then R.alt i j
  else if k = 4 then timesR R.hd l m i j
  else if k = 5 then i = 0 ∧ j = 0
  else if k = 6 then i = s.length ∧ j = s.length
  else False
def rel (s : List UInt8) : Fo → Rel
  | .nil => ⟨fun i j => i = j, fun _ _ => False, fun i j => i = j⟩
  | .cons k set kids l m rest =>
    ⟨fun i j => ∃ t, nodeR s k set (rel s kids) l m i t ∧ (rel s rest).seq t j, fun i j => nodeR s k set (rel s kids) l m i j ∨ (rel s rest).alt i j, nodeR s k set (rel s kids) l m⟩
def Fo.tame : Fo → Prop
  | .nil => True
  | .cons k _ kids l m rest => (k = 4 → 0 ≤ l ∧ (m < 0 ∨ l ≤ m)) ∧ kids.tame ∧ rest.tame
def Bd (N : Nat) (R : Nat → Nat → Prop) : Prop := ∀ i j, i ≤ N → R i j → i ≤ j ∧ j ≤ N
theorem Bd.pow {N : Nat} {R : Nat → Nat → Prop} (h : Bd N R) : ∀ n, Bd N (pow R n)
  | 0, i, j, hi, e => by cases e; exact ⟨Nat.le_refl _, hi⟩
  | n + 1, i, j, hi, ⟨k, h1, h2⟩ => by
    have a := h i k hi h1
    have b := Bd.pow h n k j a.2 h2
    omega
theorem nodeR_bd (s : List UInt8) (k : Nat) (set : List Bool) (R : Rel) (l m : Int) (h1 : Bd s.length R.seq) (h2 : Bd s.length R.alt) (h3 : Bd s.length R.hd) : Bd s.length (nodeR s k set R l m) := by
  intro i j hi h
  unfold nodeR at h
  split at h
  · obtain ⟨rfl, c, hc, _⟩ := h
    have := (List.getElem?_eq_some_iff.1 hc).1
    omega
  split at h
  · exact h1 i j hi h
  split at h
  · exact h2 i j hi h
  split at h
  · obtain ⟨n, _, _, h⟩ := h; exact h3.pow n i j hi h
  split at h
  · omega
  split at h
  · omega
  · exact h.elim
theorem rel_bd (s : List UInt8) : ∀ F : Fo, Bd s.length (rel s F).seq ∧ Bd s.length (rel s F).alt ∧ Bd s.length (rel s F).hd
  | .nil => ⟨fun i j hi h => by cases h; exact ⟨Nat.le_refl _, hi⟩, fun _ _ _ h => h.elim, fun i j hi h => by cases h; exact ⟨Nat.le_refl _, hi⟩⟩
  | .cons k set kids l m rest => by
    obtain ⟨a1, a2, a3⟩ := rel_bd s kids
    obtain ⟨b1, b2, b3⟩ := rel_bd s rest
    have hn := nodeR_bd s k set (rel s kids) l m a1 a2 a3
    refine ⟨?_, ?_, hn⟩
    · rintro i j hi ⟨t, h1, h2⟩
      have a := hn i t hi h1
      have b := b1 t j a.2 h2
      omega
    · rintro i j hi (h | h)
      · exact hn i j hi h
      · exact b2 i j hi h
def On (x : List Bool) (j : Nat) : Prop := x.getD j false = true
theorem on_or (a b : List Bool) (h : b.length = a.length) (j : Nat) : On (bOr a b) j ↔ On a j ∨ On b j := by
  unfold On bOr
  simp only [List.getD_eq_getElem?_getD, List.getElem?_zipWith]
  rcases Nat.lt_or_ge j a.length with h1 | h1
  · rw [List.getElem?_eq_getElem h1, List.getElem?_eq_getElem (by omega : j < b.length)]; simp
  · rw [List.getElem?_eq_none h1, List.getElem?_eq_none (by omega : b.length ≤ j)]; simp
theorem on_falses (n j : Nat) : ¬ On (falses n) j := by
  unfold On falses
  rw [List.getD_eq_getElem?_getD, List.getElem?_replicate]
  split <;> simp
theorem on_lt {x : List Bool} {j : Nat} (h : On x j) : j < x.length := by
  unfold On at h
  rcases Nat.lt_or_ge j x.length with h1 | h1
  · exact h1
  · rw [List.getD_eq_getElem?_getD, List.getElem?_eq_none h1] at h; simp at h
theorem on_trues (n j : Nat) : On (trues n) j ↔ j < n := by
  unfold On trues
  rw [List.getD_eq_getElem?_getD, List.getElem?_replicate]
  split <;> simp_all
def Sp (N : Nat) (E : List Bool → List Bool) (R : Nat → Nat → Prop) : Prop := ∀ x, x.length = N + 1 → (E x).length = N + 1 ∧ ∀ j, On (E x) j ↔ ∃ i, On x i ∧ R i j
theorem setE_sp (s : List UInt8) (set : List Bool) : Sp s.length (setE s set) (setR s set) := by
  intro x hx
  refine ⟨setE_length s set x hx, fun j => ?_⟩
  cases j with
  | zero =>
    constructor
    · intro h; simp [On, setE] at h
    · rintro ⟨i, _, h, _⟩; omega
  | succ j =>
    have e : On (setE s set x) (j + 1) ↔ On (List.zipWith (fun (c : UInt8) (p : Bool) => p && (decide (c.toNat < 128) && set.getD c.toNat false)) s x) j := by
      unfold On setE; simp
    rw [e]
    constructor
    · intro h
      have hl := on_lt h
      simp only [List.length_zipWith] at hl
      have h1 : j < s.length := by omega
      have h2 : j < x.length := by omega
      unfold On at h
      rw [List.getD_eq_getElem?_getD, List.getElem?_zipWith, List.getElem?_eq_getElem h1, List.getElem?_eq_getElem h2] at h
      simp only [Option.getD_some, Bool.and_eq_true, decide_eq_true_eq] at h
      refine ⟨j, ?_, rfl, s[j], List.getElem?_eq_getElem h1, h.2.1, h.2.2⟩
      unfold On; rw [List.getD_eq_getElem?_getD, List.getElem?_eq_getElem h2]; exact h.1
    · rintro ⟨i, hi, hj, c, hc, h1, h2⟩
      obtain rfl : j = i := by omega
      have hl := (List.getElem?_eq_some_iff.1 hc).1
      have hxl := on_lt hi
      unfold On at hi ⊢
      rw [List.getD_eq_getElem?_getD, List.getElem?_eq_getElem hxl] at hi
      rw [List.getD_eq_getElem?_getD, List.getElem?_zipWith, hc, List.getElem?_eq_getElem hxl]
      simp only [Option.getD_some] at hi ⊢
      rw [hi, h2]; simp [h1]
theorem pow_snoc (R : Nat → Nat → Prop) : ∀ n i j, pow R (n + 1) i j ↔ ∃ k, pow R n i k ∧ R k j
  | 0, i, j => by
    constructor
    · rintro ⟨k, h, rfl⟩; exact ⟨i, rfl, h⟩
    · rintro ⟨k, rfl, h⟩; exact ⟨j, h, rfl⟩
  | n + 1, i, j => by
    constructor
    · rintro ⟨k, h, h2⟩
      obtain ⟨t, h3, h4⟩ := (pow_snoc R n k j).1 h2
      exact ⟨t, ⟨k, h, h3⟩, h4⟩
    · rintro ⟨t, ⟨k, h, h3⟩, h4⟩
      exact ⟨k, h, (pow_snoc R n k j).2 ⟨t, h3, h4⟩⟩
theorem iter_sp {N : Nat} {E : List Bool → List Bool} {R : Nat → Nat → Prop} (h : Sp N E R) : ∀ n, Sp N (iter E n) (pow R n)
  | 0, x, hx => ⟨hx, fun j => ⟨fun hj => ⟨j, hj, rfl⟩, by rintro ⟨i, hi, rfl⟩; exact hi⟩⟩
  | n + 1, x, hx => by
    obtain ⟨l1, h1⟩ := h x hx
    obtain ⟨l2, h2⟩ := iter_sp h n (E x) l1
    refine ⟨l2, fun j => (h2 j).trans ?_⟩
    constructor
    · rintro ⟨i, hi, hp⟩
      obtain ⟨i', hi', hr⟩ := (h1 i).1 hi
      exact ⟨i', hi', i, hr, hp⟩
    · rintro ⟨i, hi, k, hr, hp⟩
      exact ⟨k, (h1 k).2 ⟨i, hi, hr⟩, hp⟩
theorem tm_sp {N : Nat} {E : List Bool → List Bool} {R : Nat → Nat → Prop} (h : Sp N E R) (x : List Bool) (l : Nat) (m : Int) (hlm : m < 0 ∨ (l : Int) ≤ m) :
    ∀ (f k : Nat) (now out : List Bool), now.length = N + 1 → out.length = N + 1 → l ≤ k → (m < 0 ∨ (k : Int) ≤ m) → miss out < f →
      (∀ j, On now j ↔ ∃ i, On x i ∧ pow R k i j) → (∀ j, On out j ↔ ∃ t, l ≤ t ∧ t ≤ k ∧ ∃ i, On x i ∧ pow R t i j) →
      (tmL E m f k now out).length = N + 1 ∧ ∀ j, On (tmL E m f k now out) j ↔ ∃ i, On x i ∧ timesR R l m i j
  | 0, k, now, out, _, _, _, _, hf, _, _ => by omega
  | f + 1, k, now, out, hn, ho, hlk, hkm, hf, h1, h2 => by
    obtain ⟨l3, h3⟩ := h now hn
    have hor := on_or out (E now) (by rw [l3, ho])
    have hmo := miss_or out (E now) (by rw [l3, ho])
    have hstep : ∀ j, On (E now) j ↔ ∃ i, On x i ∧ pow R (k + 1) i j := by
      intro j
      rw [h3 j]
      constructor
      · rintro ⟨i, hi, hr⟩
        obtain ⟨i', hi', hp⟩ := (h1 i).1 hi
        exact ⟨i', hi', (pow_snoc R k i' j).2 ⟨i, hp, hr⟩⟩
      · rintro ⟨i, hi, hp⟩
        obtain ⟨t, hp, hr⟩ := (pow_snoc R k i j).1 hp
        exact ⟨t, (h1 t).2 ⟨i, hi, hp⟩, hr⟩
    unfold tmL
    split
    · rename_i hm
      split
      · rename_i heq
        refine ⟨ho, fun j => ?_⟩
        have hsub : ∀ j, On (E now) j → On out j := fun j hj => by have := (hor j).2 (.inr hj); rwa [heq] at this
        have all : ∀ t, l ≤ t → ∀ j, (∃ i, On x i ∧ pow R t i j) → On out j := by
          intro t
          induction t with
          | zero => intro hl j hj; exact (h2 j).2 ⟨0, hl, Nat.zero_le _, hj⟩
          | succ t ih =>
            intro hl j hj
            by_cases hlt : l ≤ t
            · obtain ⟨i, hi, hp⟩ := hj
              obtain ⟨u, hp, hr⟩ := (pow_snoc R t i j).1 hp
              obtain ⟨t', a, b, i', hi', hp'⟩ := (h2 u).1 (ih hlt u ⟨i, hi, hp⟩)
              by_cases e : t' = k
              · subst e; exact hsub j ((hstep j).2 ⟨i', hi', (pow_snoc R t' i' j).2 ⟨u, hp', hr⟩⟩)
              · exact (h2 j).2 ⟨t' + 1, by omega, by omega, i', hi', (pow_snoc R t' i' j).2 ⟨u, hp', hr⟩⟩
            · obtain rfl : l = t + 1 := by omega
              exact (h2 j).2 ⟨t + 1, Nat.le_refl _, hlk, hj⟩
        constructor
        · intro hj
          obtain ⟨t, a, b, i, hi, hp⟩ := (h2 j).1 hj
          exact ⟨i, hi, t, by omega, by omega, hp⟩
        · rintro ⟨i, hi, t, a, b, hp⟩
          exact all t (by omega) j ⟨i, hi, hp⟩
      · rename_i hne
        have hms := hmo.2 hne
        have e : ((k : Int) + 1) = ((k + 1 : Nat) : Int) := by omega
        rw [e]
        refine tm_sp h x l m hlm f (k + 1) (E now) (bOr out (E now)) l3 (by rw [bOr_length _ _ (by rw [l3, ho])]; exact ho) (by omega) (by omega) (by omega) hstep ?_
        intro j
        rw [hor j, h2 j, hstep j]
        constructor
        · rintro (⟨t, a, b, c⟩ | c)
          · exact ⟨t, a, by omega, c⟩
          · exact ⟨k + 1, by omega, Nat.le_refl _, c⟩
        · rintro ⟨t, a, b, c⟩
          by_cases e : t = k + 1
          · subst e; exact .inr c
          · exact .inl ⟨t, a, by omega, c⟩
    · rename_i hm
      refine ⟨ho, fun j => (h2 j).trans ?_⟩
      constructor
      · rintro ⟨t, a, b, i, hi, hp⟩
        exact ⟨i, hi, t, by omega, by omega, hp⟩
      · rintro ⟨i, hi, t, a, b, hp⟩
        exact ⟨t, by omega, by omega, i, hi, hp⟩
theorem times_sp {N : Nat} {E : List Bool → List Bool} {R : Nat → Nat → Prop} (h : Sp N E R) (l m : Int) (hl : 0 ≤ l) (hlm : m < 0 ∨ l ≤ m) : Sp N (timesE E l m N) (timesR R l m) := by
  intro x hx
  obtain ⟨l', rfl⟩ : ∃ l' : Nat, l = l' := ⟨l.toNat, by omega⟩
  obtain ⟨l1, h1⟩ := iter_sp h l' x hx
  unfold timesE
  rw [Int.toNat_natCast]
  refine tm_sp h x l' m hlm (N + 2) l' _ _ l1 l1 (Nat.le_refl _) hlm ?_ h1 ?_
  · have := miss_le (iter E l' x); omega
  · intro j
    rw [h1 j]
    constructor
    · intro hh; exact ⟨l', Nat.le_refl _, Nat.le_refl _, hh⟩
    · rintro ⟨t, a, b, hh⟩
      obtain rfl : t = l' := by omega
      exact hh
theorem beg_sp (N : Nat) : Sp N (begE N) (fun i j => i = 0 ∧ j = 0) := by
  intro x hx
  refine ⟨by simp [begE, falses], fun j => ?_⟩
  cases j with
  | zero => constructor
            · intro h; exact ⟨0, by simpa [On, begE] using h, rfl, rfl⟩
            · rintro ⟨i, hi, rfl, _⟩; simpa [On, begE] using hi
  | succ j =>
    constructor
    · intro h; exact absurd (show On (falses N) j by simpa [On, begE] using h) (on_falses N j)
    · rintro ⟨i, hi, _, h⟩; omega
theorem fin_sp (N : Nat) : Sp N (finE N) (fun i j => i = N ∧ j = N) := by
  intro x hx
  refine ⟨by simp [finE, falses], fun j => ?_⟩
  have key : On (finE N x) j ↔ j = N ∧ On x N := by
    unfold On finE
    simp only [List.getD_eq_getElem?_getD]
    rcases Nat.lt_trichotomy j N with h | h | h
    · rw [List.getElem?_append_left (by simp [falses]; omega)]
      constructor
      · intro hh; exact absurd (show On (falses N) j by simpa [On, List.getD_eq_getElem?_getD] using hh) (on_falses N j)
      · intro hh; omega
    · subst h
      rw [List.getElem?_append_right (by simp [falses])]
      simp [falses]
    · rw [List.getElem?_eq_none (by simp [falses]; omega)]
      constructor
      · intro hh; simp at hh
      · intro hh; omega
  rw [key]
  constructor
  · rintro ⟨rfl, h⟩; exact ⟨j, h, rfl, rfl⟩
  · rintro ⟨i, hi, rfl, rfl⟩; exact ⟨rfl, hi⟩
theorem node_sp (s : List UInt8) (k : Nat) (set : List Bool) (M : Mean) (R : Rel) (l m : Int) (h4 : k = 4 → 0 ≤ l ∧ (m < 0 ∨ l ≤ m)) (h1 : Sp s.length M.seq R.seq) (h2 : Sp s.length (M.alt (falses (s.length + 1))) R.alt) (h3 : Sp s.length M.hd R.hd) :
    Sp s.length (nodeE s k set M l m) (nodeR s k set R l m) := by
  by_cases e1 : k = 1
  · subst e1; exact setE_sp s set
  by_cases e2 : k = 2
  · subst e2; exact h1
  by_cases e3 : k = 3
  · subst e3; exact h2
  by_cases e4 : k = 4
  · subst e4; exact times_sp h3 l m (h4 rfl).1 (h4 rfl).2
  by_cases e5 : k = 5
  · subst e5; exact beg_sp _
  by_cases e6 : k = 6
  · subst e6; exact fin_sp _
  · intro x hx
    unfold nodeE nodeR
    simp only [e1, e2, e3, e4, e5, e6, if_false]
    exact ⟨falses_length _, fun j => ⟨fun h => absurd h (on_falses _ j), by rintro ⟨_, _, h⟩; exact h.elim⟩⟩
theorem mean_sp (s : List UInt8) : ∀ F : Fo, F.tame → Sp s.length (mean s F).seq (rel s F).seq ∧
    (∀ acc, acc.length = s.length + 1 → ∀ x, x.length = s.length + 1 → ((mean s F).alt acc x).length = s.length + 1 ∧ ∀ j, On ((mean s F).alt acc x) j ↔ On acc j ∨ ∃ i, On x i ∧ (rel s F).alt i j) ∧ Sp s.length (mean s F).hd (rel s F).hd
  | .nil, _ => ⟨fun x hx => ⟨hx, fun j => ⟨fun hj => ⟨j, hj, rfl⟩, by rintro ⟨i, hi, rfl⟩; exact hi⟩⟩,
    fun acc ha x hx => ⟨ha, fun j => ⟨fun h => .inl h, by rintro (h | ⟨_, _, h⟩); exact h; exact h.elim⟩⟩,
    fun x hx => ⟨hx, fun j => ⟨fun hj => ⟨j, hj, rfl⟩, by rintro ⟨i, hi, rfl⟩; exact hi⟩⟩⟩
  | .cons k set kids l m rest, ⟨t0, t1, t2⟩ => by
    obtain ⟨a1, a2, a3⟩ := mean_sp s kids t1
    obtain ⟨b1, b2, b3⟩ := mean_sp s rest t2
    have hn := node_sp s k set (mean s kids) (rel s kids) l m t0 a1 (fun x hx => ⟨(a2 _ (falses_length _) x hx).1, fun j => ((a2 _ (falses_length _) x hx).2 j).trans ⟨fun h => h.elim (fun h => absurd h (on_falses _ j)) id, .inr⟩⟩) a3
    refine ⟨fun x hx => ?_, fun acc ha x hx => ?_, hn⟩
    · obtain ⟨l1, h1⟩ := hn x hx
      obtain ⟨l2, h2⟩ := b1 _ l1
      refine ⟨l2, fun j => (h2 j).trans ?_⟩
      constructor
      · rintro ⟨i, hi, hr⟩
        obtain ⟨i', hi', hr'⟩ := (h1 i).1 hi
        exact ⟨i', hi', i, hr', hr⟩
      · rintro ⟨i, hi, t, hr, hr2⟩
        exact ⟨t, (h1 t).2 ⟨i, hi, hr⟩, hr2⟩
    · obtain ⟨l1, h1⟩ := hn x hx
      have hlo : (bOr acc (nodeE s k set (mean s kids) l m x)).length = s.length + 1 := by rw [bOr_length _ _ (by rw [l1, ha])]; exact ha
      obtain ⟨l2, h2⟩ := b2 _ hlo x hx
      refine ⟨l2, fun j => (h2 j).trans ?_⟩
      rw [on_or _ _ (by rw [l1, ha]), h1 j]
      constructor
      · rintro ((h | ⟨i, hi, hr⟩) | ⟨i, hi, hr⟩)
        · exact .inl h
        · exact .inr ⟨i, hi, .inl hr⟩
        · exact .inr ⟨i, hi, .inr hr⟩
      · rintro (h | ⟨i, hi, hr | hr⟩)
        · exact .inl (.inl h)
        · exact .inl (.inr ⟨i, hi, hr⟩)
        · exact .inr ⟨i, hi, hr⟩
theorem found_iff (s : List UInt8) (F : Fo) (h : F.tame) : foundE s 3 no128 F 0 0 = true ↔ ∃ i j, i ≤ s.length ∧ (rel s F).alt i j := by
  obtain ⟨l1, h1⟩ := (mean_sp s F h).2.1 (falses (s.length + 1)) (falses_length _) (trues (s.length + 1)) (by simp [trues])
  have e : foundE s 3 no128 F 0 0 = ((mean s F).alt (falses (s.length + 1)) (trues (s.length + 1))).any id := rfl
  rw [e, List.any_eq_true]
  constructor
  · rintro ⟨b, hb, hbt⟩
    obtain ⟨j, hj, e⟩ := List.mem_iff_getElem.1 hb
    have hon : On ((mean s F).alt (falses (s.length + 1)) (trues (s.length + 1))) j := by
      unfold On; rw [List.getD_eq_getElem?_getD, List.getElem?_eq_getElem hj, e]; exact hbt
    rcases (h1 j).1 hon with h | ⟨i, hi, hr⟩
    · exact absurd h (on_falses _ j)
    · exact ⟨i, j, by have := (on_trues _ i).1 hi; omega, hr⟩
  · rintro ⟨i, j, hi, hr⟩
    have hon := (h1 j).2 (.inr ⟨i, (on_trues _ i).2 (by omega), hr⟩)
    have hl := on_lt hon
    refine ⟨_, List.getElem_mem hl, ?_⟩
    unfold On at hon
    rw [List.getD_eq_getElem?_getD, List.getElem?_eq_getElem hl] at hon
    exact hon
theorem sfx_tame (q : Su) (k : Nat) (set : List Bool) (kids r : Fo) (hk : k ≠ 4) (h1 : kids.tame) (h2 : r.tame) : (sfx q k set kids r).tame := by
  cases q <;> simp [sfx, Fo.tame, hk, h1, h2]
theorem ms_tame : ∀ (g : G) (fold dot : Bool), (ms g fold dot).1.tame ∧ (ms g fold dot).2.tame
  | .done, _, _ => ⟨trivial, trivial⟩
  | .bar r, fold, dot => ⟨trivial, by simp [ms, Fo.tame, ms_tame r fold dot]⟩
  | .ato a q r, fold, dot => ⟨sfx_tame q _ _ _ _ (by cases a <;> simp [ndA]) trivial (ms_tame r fold dot).1, (ms_tame r fold dot).2⟩
  | .grp i q r, fold, dot => ⟨sfx_tame q _ _ _ _ (by simp) (by simp [Fo.tame, ms_tame i fold dot]) (ms_tame r fold dot).1, (ms_tame r fold dot).2⟩
  | .flg i u r, fold, dot => ⟨by simp [ms, Fo.tame, ms_tame r (fold || i) true], (ms_tame r (fold || i) true).2⟩
theorem lists_tame (g : G) (fold dot : Bool) : (lists g fold dot).tame := by simp [lists, Fo.tame, ms_tame g fold dot]
def asc (s : List UInt8) : Prop := ∀ c ∈ s, c.toNat < 128
end Go.Proofs.YtpfgmiocdgfniaaGreatFmt.Re

namespace Go.Proofs.YtpfgmiocdgfniaaGreatFmt
open Go.RowKit
abbrev tRd : TypeId := 65
abbrev tRe : TypeId := 31
abbrev tFl : TypeId := 68
def RS (rb : Nat) (s : ByteArray) (i : Nat) (ok : Bool) (w : World) : Prop := w.heap[rb]? = some (.cells #[.string s, .int .i64 i, .bool ok] tRd (0, 0))
theorem RS.cells {rb : Nat} {s : ByteArray} {i : Nat} {ok : Bool} {w : World} (h : RS rb s i ok w) :
    w.cell? ⟨rb, 0, none⟩ = some (.string s) ∧ w.cell? ⟨rb, 1, none⟩ = some (.int .i64 i) ∧ w.cell? ⟨rb, 2, none⟩ = some (.bool ok) ∧ w.frozen? ⟨rb, 1, none⟩ = false ∧ w.frozen? ⟨rb, 2, none⟩ = false ∧ rb < w.heap.size := by
  unfold RS at h
  refine ⟨?_, ?_, ?_, ?_, ?_, (Array.getElem?_eq_some_iff.1 h).1⟩
  · rw [Lib.cell_of_heap h]; rfl
  · rw [Lib.cell_of_heap h]; rfl
  · rw [Lib.cell_of_heap h]; rfl
  · exact Lib.frozen_of_heap h 1
  · exact Lib.frozen_of_heap h 2
theorem RS.set {rb : Nat} {s : ByteArray} {i j : Nat} {ok : Bool} {w : World} (h : RS rb s i ok w) : RS rb s j ok (w.setCell ⟨rb, 1, none⟩ (.int .i64 j)) := by
  unfold RS at h ⊢
  simp [World.setCell, Array.getElem?_modify, h]
theorem RS.kept {rb : Nat} {s : ByteArray} {i : Nat} {ok : Bool} {w w' : World} {X : Nat → Prop} (h : RS rb s i ok w) (k : Kp X w w') (hX : ¬ X rb) : RS rb s i ok w' := k.heap hX h
theorem RS.drew {rb : Nat} {s : ByteArray} {i : Nat} {ok : Bool} {w : World} (n : Nat) (h : RS rb s i ok w) : RS rb s i ok (w.drewN n) := h
theorem more_any (rb : Nat) (s : ByteArray) (i : Nat) (ok : Bool) (w : World) (h : RS rb s i ok w) :
    Calls Tryz.prog 31 #[.pointer (some ⟨rb, 0, none⟩)] w fun e w' => e = .returned (.bool (ok && decide ((i : Int) < (s.size : Int)))) ∧ ∃ n, w' = w.drewN n := by
  obtain ⟨c0, c1, c2, _, _, _⟩ := h.cells
  clear h
  cases ok with
  | false =>
    go_enter Tryz.func31, Tryz.ntmps31
    go_wp2
    go_quiet (fail)
    go_wp2
    go_ret
    exact ⟨rfl, nq, rfl⟩
  | true =>
    go_enter Tryz.func31, Tryz.ntmps31
    go_wp2
    go_quiet (fail)
    go_wp2
    go_ret
    exact ⟨by simp, nq, rfl⟩
theorem Kp.drewN {X : Nat → Prop} {a w : World} (n : Nat) (h : Kp X a w) : Kp X a (w.drewN n) := ⟨h.os, h.tape, h.output, h.size, h.block⟩
def Rm (s : ByteArray) (i : Nat) (r : List UInt8) : Prop := s.data.toList.drop i = r ∧ i ≤ s.size
theorem Rm.size {s : ByteArray} {i : Nat} {r : List UInt8} (h : Rm s i r) : i + r.length = s.size := by
  have := congrArg List.length h.1
  rw [List.length_drop, Pat.size_toList] at this
  have := h.2
  omega
theorem Rm.app {s : ByteArray} {i : Nat} {l r : List UInt8} (h : Rm s i (l ++ r)) : Rm s (i + l.length) r := by
  refine ⟨?_, by have := h.size; simp at this; omega⟩
  rw [← List.drop_drop, h.1, List.drop_left]
theorem Rm.tail {s : ByteArray} {i : Nat} {c : UInt8} {r : List UInt8} (h : Rm s i (c :: r)) : Rm s (i + 1) r := h.app (l := [c])
theorem Rm.at {s : ByteArray} {i : Nat} {c : UInt8} {r : List UInt8} (h : Rm s i (c :: r)) : ∃ hi : i < s.size, s[i] = c := by
  have hs := h.size
  simp only [List.length_cons] at hs
  refine ⟨by omega, ?_⟩
  have h1 : i < s.data.toList.length := by rw [Pat.size_toList]; omega
  have h2 := h.1
  rw [List.drop_eq_getElem_cons h1] at h2
  exact (List.cons.inj h2).1
theorem toList_data' (s : ByteArray) : s.toList = s.data.toList := by rw [ByteArray.toList_eq]
theorem Rm.cut {s lit : ByteArray} {i : Nat} {r : List UInt8} (h : Rm s i r) : (s.extract i (i + lit.size)).toList = r.take lit.size := by
  rw [toList_data', ByteArray.data_extract, Array.toList_extract, List.extract_eq_take_drop, h.1, show i + lit.size - i = lit.size from by omega]
theorem skip_f (rb : Nat) (s lit : ByteArray) (i : Nat) (ok : Bool) (w : World) (r : List UInt8) (h : RS rb s i ok w) (hs : s.size ≤ 4611686018427387904) (hl : lit.size ≤ 100) (hr : Rm s i r) (hno : lit.data.toList.isPrefixOf r = false) :
    Calls Tryz.prog 32 #[.pointer (some ⟨rb, 0, none⟩), .string lit] w fun e w' => e = .returned (.bool false) ∧ ∃ n, w' = w.drewN n := by
  obtain ⟨c0, c1, c2, _, _, _⟩ := h.cells
  have hsz := hr.size
  have hls := Pat.size_toList lit
  clear h
  have hw : IntKind.i64.wrap ((i : Int) + (lit.size : Int)) = (i : Int) + (lit.size : Int) := IntWalk.i64_in _ (by omega)
  by_cases hle : i + lit.size ≤ s.size
  · have hd : decide ((i : Int) + (lit.size : Int) ≤ (s.size : Int)) = true := by simp; omega
    have h0 : 0 ≤ (i : Int) + (lit.size : Int) := by omega
    have h1 : (i : Int) ≤ (i : Int) + (lit.size : Int) := by omega
    have h2 : (i : Int) + (lit.size : Int) ≤ (s.size : Int) := by omega
    have hn : ((i : Int) + (lit.size : Int)).toNat = i + lit.size := by omega
    have hb : ((s.extract i (i + lit.size)).toList == lit.toList) = false := by
      rw [hr.cut, toList_data', beq_eq_false_iff_ne]
      intro e
      rw [Bool.eq_false_iff] at hno
      exact hno (List.isPrefixOf_iff_prefix.2 ⟨r.drop lit.size, by rw [← e, List.take_append_drop]⟩)
    clear hr hno hsz hls hle
    go_enter Tryz.func32, Tryz.ntmps32
    go_wp2
    go_quiet (fail)
    go_wp2
    go_ret
    exact ⟨rfl, nq, rfl⟩
  · have hd : decide ((i : Int) + (lit.size : Int) ≤ (s.size : Int)) = false := by simp; omega
    clear hr hno hsz hls hle
    go_enter Tryz.func32, Tryz.ntmps32
    go_wp2
    go_quiet (fail)
    go_wp2
    go_ret
    exact ⟨rfl, nq, rfl⟩
theorem skip_t (rb : Nat) (s lit : ByteArray) (i : Nat) (ok : Bool) (w : World) (r : List UInt8) (h : RS rb s i ok w) (hs : s.size ≤ 4611686018427387904) (hr : Rm s i (lit.data.toList ++ r)) :
    Calls Tryz.prog 32 #[.pointer (some ⟨rb, 0, none⟩), .string lit] w fun e w' => e = .returned (.bool true) ∧ RS rb s (i + lit.size) ok w' ∧ Kp (· = rb) w w' := by
  obtain ⟨c0, c1, c2, f1, f2, _⟩ := h.cells
  have hsz := hr.size
  have hls := Pat.size_toList lit
  rw [List.length_append, hls] at hsz
  have hw : IntKind.i64.wrap ((i : Int) + (lit.size : Int)) = (i : Int) + (lit.size : Int) := IntWalk.i64_in _ (by omega)
  have hd : decide ((i : Int) + (lit.size : Int) ≤ (s.size : Int)) = true := by simp; omega
  have h0 : 0 ≤ (i : Int) + (lit.size : Int) := by omega
  have h1 : (i : Int) ≤ (i : Int) + (lit.size : Int) := by omega
  have h2 : (i : Int) + (lit.size : Int) ≤ (s.size : Int) := by omega
  have hn : ((i : Int) + (lit.size : Int)).toNat = i + lit.size := by omega
  have hb : ((s.extract i (i + lit.size)).toList == lit.toList) = true := by
    rw [hr.cut, toList_data', ← hls, List.take_left, beq_iff_eq]
  have H := Lib.hid h
  clear hr hsz hls h
  go_enter Tryz.func32, Tryz.ntmps32
  go_wp2
  go_quiet (fail)
  go_wp2
  go_ret
  refine ⟨rfl, ?_, ?_⟩
  · have := (H.out.drew nq).set (j := i + lit.size)
    simpa using this
  · exact Kp.setCell (X := (· = rb)) (p := ⟨rb, 1, none⟩) (Kp.drewN nq (Kp.refl _ w)) (.inl rfl) _
end Go.Proofs.YtpfgmiocdgfniaaGreatFmt

namespace Go.Proofs.YtpfgmiocdgfniaaGreatFmt
open Go.RowKit
def reC (k : Int) (set : List Value) (kv : Value) (l m : Int) : Array Value := (.int .i64 k :: (set ++ [kv, .int .i64 l, .int .i64 m])).toArray
def noV : List Value := List.replicate 128 (.bool false)
def reZ : Array Value := reC 0 noV (.slice none 0 0) 0 0
theorem infoRe : (Tryz.prog.info? tRe).map (fun i => (i.zero, i.size)) = some (some (.agg reZ), 132) := by kernel_rfl
theorem zeroRe (w : World) : (zeroValue tRe).run Tryz.prog w = .ok (.agg reZ) w := (zero_of_info infoRe).1 w
theorem sizeRe : (Tryz.prog.info? tRe).map (·.size) = some 132 := (zero_of_info infoRe).2
theorem builtRe2 : Tryz.prog.built tRe [(0, .int .i64 2)] = some (reC 2 noV (.slice none 0 0) 0 0) := by kernel_rfl
theorem builtRe5 : Tryz.prog.built tRe [(0, .int .i64 5)] = some (reC 5 noV (.slice none 0 0) 0 0) := by kernel_rfl
def oneC (l : List Value) : Prop := ∀ v ∈ l, v.oneCell' = true
theorem storeRe (w : World) (g : Nat) (old : Array Value) (cs : List Value) (hg : w.heap[g]? = some (.cells old tRe (0, 0))) (ho : old.size = 132) (hc : cs.length = 132) (h1 : oneC cs) :
    (storeCells ⟨g, 0, none⟩ cs).run Tryz.prog w = .ok () (w.setRow g cs.toArray) := by
  have := run_storeCells_from (P := Tryz.prog) g tRe cs 0 old w hg (by omega) h1
  simpa using this
theorem loadRe (w : World) (g : Nat) (cs : Array Value) (hg : w.heap[g]? = some (.cells cs tRe (0, 0))) (hc : cs.size = 132) :
    (loadCellsFrom ⟨g, 0, none⟩ 0 132 #[]).run Tryz.prog w = .ok cs w := by
  have := run_loadCells_list (P := Tryz.prog) w ⟨g, 0, none⟩ cs.toList (fun j v hv => by
    have hadd : (⟨g, 0, none⟩ : Addr).add j = ⟨g, j, none⟩ := by unfold Addr.add; split <;> simp_all
    rw [hadd, cell_of_row _ _ j cs tRe (0, 0) hg]
    simpa using hv)
  rw [Array.length_toList, hc] at this
  simpa [loadCells] using this
theorem resultRe {fn : Func} {p : Tmp} (h : fn.results = #[.cell p tRe]) (tmps : Array Value) (w : World) (g : Nat) (cs : Array Value) (hp : tmps.getD p undef = .pointer (some ⟨g, 0, none⟩)) (hg : w.heap[g]? = some (.cells cs tRe (0, 0))) (hc : cs.size = 132) :
    (results fn tmps).run Tryz.prog w = .ok (.agg cs) w :=
  results_cell_row h tmps w g tRe cs (0, 0) _ hp hg Tryz.underlying31 rfl (by rw [sizeRe, hc])
theorem oneC_reC {k : Int} {set : List Value} {kv : Value} {l m : Int} (h1 : oneC set) (h2 : kv.oneCell' = true) : oneC (reC k set kv l m).toList := by
  intro v hv
  simp only [reC, List.mem_cons, List.mem_append, List.not_mem_nil, or_false] at hv
  rcases hv with rfl | hv | rfl | rfl | rfl
  · rfl
  · exact h1 v hv
  · exact h2
  · rfl
  · rfl
theorem oneC_no : oneC noV := by
  intro v hv
  rw [List.eq_of_mem_replicate hv]; rfl
theorem reC_size {k : Int} {set : List Value} {kv : Value} {l m : Int} (h : set.length = 128) : (reC k set kv l m).size = 132 := by
  simp [reC, h]
theorem oneC_set2 (k : Int) : oneC (reZ.toList.set 0 (.int .i64 k)) := oneC_reC (k := k) (l := 0) (m := 0) (kv := .slice none 0 0) oneC_no rfl
theorem reZ_set (k : Int) : (reZ.toList.set 0 (.int .i64 k)).toArray = reC k noV (.slice none 0 0) 0 0 := rfl
theorem Kp.setRow {X : Nat → Prop} {a w : World} (h : Kp X a w) {g : Nat} (hg : X g ∨ a.heap.size ≤ g) (cs : Array Value) : Kp X a (w.setRow g cs) :=
  ⟨h.os, h.tape, h.output, by have := h.size; simp; omega, fun k hk hx => by
    rw [setRow_other _ _ _ _ (fun e => by subst e; rcases hg with hg | hg; exact hx hg; omega)]
    exact h.block k hk hx⟩
theorem RS.bad {rb : Nat} {s : ByteArray} {i : Nat} {ok b : Bool} {w : World} (h : RS rb s i ok w) : RS rb s i b (w.setCell ⟨rb, 2, none⟩ (.bool b)) := by
  unfold RS at h ⊢
  simp [World.setCell, Array.getElem?_modify, h]
theorem fail_any (rb : Nat) (s : ByteArray) (i : Nat) (ok : Bool) (w : World) (h : RS rb s i ok w) :
    Calls Tryz.prog 53 #[.pointer (some ⟨rb, 0, none⟩)] w fun e w' => e = .returned (.agg (reC 2 noV (.slice none 0 0) 0 0)) ∧ RS rb s i false w' ∧ Kp (· = rb) w w' := by
  obtain ⟨c0, c1, c2, f1, f2, hlt⟩ := h.cells
  have hz := zeroRe
  have H := Lib.hid h
  clear h
  go_enter Tryz.func53, Tryz.ntmps53
  go_wp2
  rw [storeRe _ w.heap.size reZ (reZ.toList.set 0 (.int .i64 2)) (by have := heap_alloc_new (w.setCell ⟨rb, 2, none⟩ (.bool false)) (.cells reZ tRe); simpa using this) rfl rfl (oneC_set2 2), reZ_set]
  go_wp2
  have hg := heap_alloc_new (w.setCell ⟨rb, 2, none⟩ (.bool false)) (.cells reZ tRe)
  have k1 : Kp (fun _ => False) (w.setCell ⟨rb, 2, none⟩ (.bool false)) (((w.setCell ⟨rb, 2, none⟩ (.bool false)).alloc (.cells reZ tRe)).setRow w.heap.size (reC 2 noV (.slice none 0 0) 0 0)) :=
    ((Kp.refl _ _).alloc _).setRow (.inr (by simp)) _
  refine bodyPost_ret (v := .agg (reC 2 noV (.slice none 0 0) 0 0)) (resultRe Tryz.results53 _ _ w.heap.size _ rfl (setRow_heap _ _ reZ _ tRe (0, 0) (by simpa using hg)) rfl) rfl ⟨rfl, ?_, ?_⟩
  · exact RS.kept (RS.bad H.out) k1 id
  · exact (Kp.setCell (X := (· = rb)) (p := ⟨rb, 2, none⟩) (Kp.refl _ w) (.inl rfl) _).trans (k1.mono (fun _ _ h => h.elim))
theorem ret_u8 {a b : Int} (h : a = b) : Ending.returned (.int .u8 a) = .returned (.int .u8 b) := by rw [h]
theorem other_any (c : Nat) (w : World) (hc : c < 128) : Calls Tryz.prog 72 #[.int .u8 c] w fun e w' => e = .returned (.int .u8 (Re.oth c)) ∧ w = w' := by
  by_cases h1 : 97 ≤ c ∧ c ≤ 122
  · have e : Re.oth c = c - 32 := by simp [Re.oth, h1]
    have d1 : decide ((97 : Int) ≤ (c : Int)) = true := by simp; omega
    have d2 : decide ((c : Int) ≤ 122) = true := by simp; omega
    rw [e]
    go_enter Tryz.func72, Tryz.ntmps72
    go_wp2
    go_ret
    exact ⟨ret_u8 (by omega), rfl⟩
  · by_cases h2 : 65 ≤ c ∧ c ≤ 90
    · have e : Re.oth c = c + 32 := by simp [Re.oth, h2]; omega
      have d1 : decide ((97 : Int) ≤ (c : Int)) = false := by simp; omega
      have d3 : decide ((65 : Int) ≤ (c : Int)) = true := by simp; omega
      have d2 : decide ((c : Int) ≤ 90) = true := by simp; omega
      rw [e]
      go_enter Tryz.func72, Tryz.ntmps72
      go_wp2
      go_ret
      exact ⟨ret_u8 (by omega), rfl⟩
    · have e : Re.oth c = c := by simp [Re.oth, h1, h2]
      rw [e]
      go_enter Tryz.func72, Tryz.ntmps72
      go_wp2
      all_goals
        go_ret
        first | exact ⟨rfl, rfl⟩ | (exfalso; omega)
end Go.Proofs.YtpfgmiocdgfniaaGreatFmt

namespace Go.Proofs.YtpfgmiocdgfniaaGreatFmt
open Go.RowKit
structure BL (w : World) (b : Nat) (v : Value) (l : List Bool) : Prop where
  eq : ∃ c, v = .slice (some ⟨b, 0, none⟩) l.length c
  at' : w.rangeAt b 0 (l.map .bool)
  old : b < w.heap.size
theorem range_bl {w : World} {b : Nat} {l : List Bool} (h : w.rangeAt b 0 (l.map .bool)) (c : Nat) (hc : c < l.length) : w.cell? ⟨b, c, none⟩ = some (.bool l[c]) := by
  have := h c (.bool l[c]) (by rw [List.getElem?_map, List.getElem?_eq_getElem hc]; rfl)
  rwa [Nat.zero_add] at this
theorem same_any (w : World) (b b' : Nat) (v v' : Value) (l l' : List Bool) (h : BL w b v l) (h' : BL w b' v' l') (hl : l'.length = l.length) (hs : l.length ≤ 549755813888) :
    Calls Tryz.prog 36 #[v, v'] w fun e w' => e = .returned (.bool (decide (l = l'))) ∧ Below w.heap.size w w' := by
  obtain ⟨⟨c, rfl⟩, h1, h2⟩ := h
  obtain ⟨⟨c', rfl⟩, h1', h2'⟩ := h'
  go_enter Tryz.func36, Tryz.ntmps36
  go_wp2
  go_loopg [8] l.length (fun g s8 wx => ∃ c : Nat, c + g = l.length ∧ s8 = .int .i64 c ∧ l.take c = l'.take c ∧ ∃ n, wx = w.drewN n)
  case atStart => exact ⟨0, by omega, rfl, rfl, 0, rfl⟩
  case round =>
    obtain ⟨k, hcg, rfl, hk, n, rfl⟩ := hrel
    cases gk with
    | zero =>
      obtain rfl : k = l.length := by omega
      have e : l = l' := by rw [List.take_of_length_le (Nat.le_refl _), List.take_of_length_le (by omega)] at hk; exact hk
      go_wp2
      go_ret
      exact ⟨by simp [e], ((Kp.refl (fun _ => False) w).drewN n).below (Nat.le_refl _) (fun _ _ => id)⟩
    | succ g =>
      have i0 : (k : Int) < (l.length : Int) := by omega
      have g1 := range_bl h1 k (by omega)
      have g2 := range_bl h1' k (by omega)
      have hk1 : k < l.length := by omega
      have hk2 : k < l'.length := by omega
      generalize hx : l[k]'(by omega) = x at g1
      generalize hy : l'[k]'(by omega) = y at g2
      have i1 : (k : Int) < (l'.length : Int) := by omega
      have i2 : (0 : Int) ≤ (k : Int) := by omega
      cases x <;> cases y
      all_goals
        go_wp2
        go_quiet (fail)
        go_wp2
      · go_roundg g
        case measure => omega
        case rel =>
          refine ⟨k + 1, by omega, by go_num, ?_, _, rfl⟩
          rw [List.take_add_one, List.take_add_one, hk, List.getElem?_eq_getElem hk1, List.getElem?_eq_getElem hk2, hx, hy]
      · go_ret
        have hne : ¬ l = l' := by intro e; subst e; rw [hx] at hy; exact absurd hy (by decide)
        exact ⟨by simp [hne], (((Kp.refl (fun _ => False) w).drewN _).drewN _).below (Nat.le_refl _) (fun _ _ => id)⟩
      · go_ret
        have hne : ¬ l = l' := by intro e; subst e; rw [hx] at hy; exact absurd hy (by decide)
        exact ⟨by simp [hne], (((Kp.refl (fun _ => False) w).drewN _).drewN _).below (Nat.le_refl _) (fun _ _ => id)⟩
      · go_roundg g
        case measure => omega
        case rel =>
          refine ⟨k + 1, by omega, by go_num, ?_, _, rfl⟩
          rw [List.take_add_one, List.take_add_one, hk, List.getElem?_eq_getElem hk1, List.getElem?_eq_getElem hk2, hx, hy]
end Go.Proofs.YtpfgmiocdgfniaaGreatFmt

namespace Go.Proofs.YtpfgmiocdgfniaaGreatFmt
open Go.RowKit
theorem infoBool : (Tryz.prog.info? 4).map (fun i => (i.zero, i.bytes, i.size)) = some (some (.bool false), 1, 1) := by kernel_rfl
theorem made_bools (n : Nat) : madeCells #[.bool false] n = Array.replicate n (.bool false) := by
  apply Array.ext
  · simp [madeCells]
  · intro k h1 h2
    simp [madeCells, Nat.mod_one]
theorem makeBools (n : Nat) (hn : n ≤ 549755813888) (w : World) : (Instr.makeSlice 69 (.int .i64 (n : Int)) (.int .i64 (n : Int))).run Tryz.prog w = .ok (.slice (some ⟨w.heap.size, 0, none⟩) n n) (w.alloc (.cells (Array.replicate n (.bool false)) 4)) := by
  obtain ⟨i, hi, hz, hb, hs⟩ : ∃ i, Tryz.prog.info? 4 = some i ∧ i.zero = some (.bool false) ∧ i.bytes = 1 ∧ i.size = 1 := by
    have h := infoBool
    cases e : Tryz.prog.info? 4 with
    | none => rw [e] at h; cases h
    | some i =>
      rw [e] at h
      simp only [Option.map_some, Option.some.injEq, Prod.mk.injEq] at h
      exact ⟨i, rfl, h.1, h.2.1, h.2.2⟩
  rw [run_make w 69 4 i (.bool false) Tryz.underlying69 hi hz .i64 .i64 n n (by omega) (Int.le_refl _) (by rw [hb]; omega) (by omega)]
  rw [hs, Int.toNat_natCast, Nat.mul_one]
  rw [show (Value.bool false).cells = #[.bool false] from rfl, made_bools]
end Go.Proofs.YtpfgmiocdgfniaaGreatFmt

namespace Go.Proofs.YtpfgmiocdgfniaaGreatFmt
open Go.RowKit
def mkB (a b : Value) : Sem Value := Instr.makeSlice 69 a b
theorem mk_eq (a b : Value) : Instr.makeSlice 69 a b = mkB a b := rfl
theorem run_mkB (n : Nat) (w : World) (hn : n ≤ 549755813888) : (mkB (.int .i64 (n : Int)) (.int .i64 (n : Int))).run Tryz.prog w = .ok (.slice (some ⟨w.heap.size, 0, none⟩) n n) (w.alloc (.cells (Array.replicate n (.bool false)) 4)) := makeBools n hn w
attribute [local go_sem ↓] mk_eq
attribute [local go_sem] run_mkB
def bothC (l l' : List Bool) (k : Nat) : Array Value := (((List.zipWith (· || ·) l l').take k ++ List.replicate (l.length - k) false).map .bool).toArray
theorem bothC_zero (l l' : List Bool) : bothC l l' 0 = Array.replicate l.length (.bool false) := by
  apply Array.ext'
  simp [bothC]
theorem bothC_old (l l' : List Bool) (k : Nat) (hk : k < l.length) (hl : l'.length = l.length) : (bothC l l' k)[k]? = some (.bool false) := by
  simp only [bothC, List.getElem?_toArray, List.getElem?_map]
  rw [List.getElem?_append_right (by simp; omega), List.length_take, List.length_zipWith, List.getElem?_replicate, if_pos (by omega)]
  rfl
theorem bothC_succ (l l' : List Bool) (k : Nat) (hk : k < l.length) (hk' : k < l'.length) (hl : l'.length = l.length) : (bothC l l' k).setIfInBounds k (.bool (l[k] || l'[k])) = bothC l l' (k + 1) := by
  apply Array.ext_getElem?
  intro j
  rw [Array.getElem?_setIfInBounds]
  simp only [bothC, List.getElem?_toArray, List.getElem?_map, List.size_toArray, List.length_map, List.length_append, List.length_take, List.length_zipWith, List.length_replicate]
  by_cases e : k = j
  · subst e
    rw [if_pos rfl, if_pos (by omega), List.getElem?_append_left (by simp; omega), List.getElem?_take_of_lt (by omega)]
    simp [hk, hk', List.getElem?_zipWith]
  · rw [if_neg e]
    by_cases h : j < k
    · rw [List.getElem?_append_left (by simp; omega), List.getElem?_append_left (by simp; omega), List.getElem?_take_of_lt (by omega), List.getElem?_take_of_lt (by omega)]
    · rw [List.getElem?_append_right (by simp; omega), List.getElem?_append_right (by simp; omega)]
      simp only [List.length_take, List.length_zipWith, List.getElem?_replicate]
      by_cases h2 : j < l.length
      · rw [if_pos (by omega), if_pos (by omega)]
      · rw [if_neg (by omega), if_neg (by omega)]
theorem heap_setCell_row {w : World} {b k : Nat} {v : Value} {cs : Array Value} {t : TypeId} {fr : Nat × Nat} (h : w.heap[b]? = some (.cells cs t fr)) : (w.setCell ⟨b, k, none⟩ v).heap[b]? = some (.cells (cs.setIfInBounds k v) t fr) := by
  simp [World.setCell, Array.getElem?_modify, h]
theorem both_any (w : World) (b b' : Nat) (v v' : Value) (l l' : List Bool) (h : BL w b v l) (h' : BL w b' v' l') (hl : l'.length = l.length) (hs : l.length ≤ 549755813888) :
    Calls Tryz.prog 35 #[v, v'] w fun e w' => ∃ r, e = .returned r ∧ (∃ b2, w.heap.size ≤ b2 ∧ BL w' b2 r (List.zipWith (· || ·) l l')) ∧ Below w.heap.size w w' := by
  obtain ⟨⟨c, rfl⟩, h1, h2⟩ := h
  obtain ⟨⟨c', rfl⟩, h1', h2'⟩ := h'
  go_enter Tryz.func35, Tryz.ntmps35
  go_wp2
  go_loopg [12] l.length (fun g s12 wx => ∃ k : Nat, k + g = l.length ∧ s12 = .int .i64 k ∧ Kp (fun _ => False) w wx ∧ wx.heap[w.heap.size]? = some (.cells (bothC l l' k) 4 (0, 0)))
  case atStart => exact ⟨0, by omega, rfl, (Kp.refl _ _).alloc _, by rw [bothC_zero]; exact heap_alloc_new w _⟩
  case round =>
    obtain ⟨k, hcg, rfl, hK, hH⟩ := hrel
    cases gk with
    | zero =>
      obtain rfl : k = l.length := by omega
      go_wp2
      go_ret
      refine ⟨_, rfl, ⟨w.heap.size, Nat.le_refl _, ⟨⟨_, by simp [hl]; rfl⟩, ?_, ?_⟩⟩, hK.below (Nat.le_refl _) (fun _ _ => id)⟩
      · intro j v hv
        rw [Nat.zero_add, Lib.cell_of_heap hH, ← hv]
        simp only [bothC, List.getElem?_toArray, Nat.sub_self, List.replicate_zero, List.append_nil]
        rw [List.take_of_length_le (by simp; omega)]
      · have := (Array.getElem?_eq_some_iff.1 hH).1
        exact this
    | succ g =>
      have hk1 : k < l.length := by omega
      have hk2 : k < l'.length := by omega
      have g1 := hK.cell id (range_bl h1 k hk1)
      have g2 := hK.cell id (range_bl h1' k hk2)
      have g3 : wr.cell? ⟨w.heap.size, k, none⟩ = some (.bool false) := by
        rw [Lib.cell_of_heap hH]; exact bothC_old l l' k hk1 hl
      have g4 : wr.frozen? ⟨w.heap.size, k, none⟩ = false := Lib.frozen_of_heap hH k
      have i0 : (k : Int) < (l.length : Int) := by omega
      have i1 : (k : Int) < (l'.length : Int) := by omega
      have i2 : (0 : Int) ≤ (k : Int) := by omega
      have fin : ∀ wy, Kp (fun _ => False) wr wy → True := fun _ _ => trivial
      generalize hx : l[k]'hk1 = x at g1
      generalize hy : l'[k]'hk2 = y at g2
      clear fin
      cases x <;> cases y
      all_goals go_wp2
      all_goals
        go_roundg g
        case measure => omega
        case rel =>
          refine ⟨k + 1, by omega, by go_num, ?_, ?_⟩
          · exact hK.setCell (.inr (Nat.le_refl _)) _
          · rw [heap_setCell_row hH, ← bothC_succ l l' k hk1 hk2 hl, hx, hy]; rfl
def part (L : List Bool) (k : Nat) : Array Value := ((L.take k ++ List.replicate (L.length - k) false).map .bool).toArray
theorem part_zero (L : List Bool) : part L 0 = Array.replicate L.length (.bool false) := by
  apply Array.ext'
  simp [part]
theorem part_size (L : List Bool) (k : Nat) (hk : k ≤ L.length) : (part L k).size = L.length := by simp [part]; omega
theorem part_old (L : List Bool) (k : Nat) (hk : k < L.length) : (part L k)[k]? = some (.bool false) := by
  simp only [part, List.getElem?_toArray, List.getElem?_map]
  rw [List.getElem?_append_right (by simp; omega), List.length_take, List.getElem?_replicate, if_pos (by omega)]
  rfl
theorem part_succ (L : List Bool) (k : Nat) (hk : k < L.length) (b : Bool) (hb : L[k] = b) : (part L k).setIfInBounds k (.bool b) = part L (k + 1) := by
  subst hb
  apply Array.ext_getElem?
  intro j
  rw [Array.getElem?_setIfInBounds]
  simp only [part, List.getElem?_toArray, List.getElem?_map, List.size_toArray, List.length_map, List.length_append, List.length_take, List.length_replicate]
  by_cases e : k = j
  · subst e
    rw [if_pos rfl, if_pos (by omega), List.getElem?_append_left (by simp; omega), List.getElem?_take_of_lt (by omega)]
    simp [hk]
  · rw [if_neg e]
    by_cases h : j < k
    · rw [List.getElem?_append_left (by simp; omega), List.getElem?_append_left (by simp; omega), List.getElem?_take_of_lt (by omega), List.getElem?_take_of_lt (by omega)]
    · rw [List.getElem?_append_right (by simp; omega), List.getElem?_append_right (by simp; omega)]
      simp only [List.length_take, List.getElem?_replicate]
      by_cases h2 : j < L.length
      · rw [if_pos (by omega), if_pos (by omega)]
      · rw [if_neg (by omega), if_neg (by omega)]
theorem part_false (L : List Bool) (k : Nat) (hk : k < L.length) (h : L[k] = false) : part L (k + 1) = part L k := by
  rw [← part_succ L k hk false h]
  apply Array.ext_getElem?
  intro j
  rw [Array.getElem?_setIfInBounds]
  by_cases e : k = j
  · subst e
    rw [if_pos rfl, part_old L k hk, if_pos (by rw [part_size L k (by omega)]; exact hk)]
  · rw [if_neg e]
theorem part_up (L : List Bool) (k : Nat) : ∀ n, k + n ≤ L.length → (∀ j (h : j < L.length), k ≤ j → j < k + n → L[j] = false) → part L (k + n) = part L k
  | 0, _, _ => rfl
  | n + 1, hk, h => by rw [← Nat.add_assoc, part_false L (k + n) (by omega) (h (k + n) (by omega) (by omega) (by omega)), part_up L k n (by omega) (fun j hj h1 h2 => h j hj h1 (by omega))]
theorem part_full (L : List Bool) : part L L.length = (L.map .bool).toArray := by simp [part]
theorem BL.of_row {w : World} {b : Nat} {L : List Bool} {t : TypeId} {n cap : Nat} (h : w.heap[b]? = some (.cells (part L L.length) t (0, 0))) (hn : n = L.length) : BL w b (.slice (some ⟨b, 0, none⟩) n cap) L := by
  refine ⟨⟨cap, by rw [hn]⟩, ?_, (Array.getElem?_eq_some_iff.1 h).1⟩
  intro j v hv
  rw [Nat.zero_add, Lib.cell_of_heap h, part_full]
  simpa using hv
theorem BL.kept {X : Nat → Prop} {w w' : World} {b : Nat} {v : Value} {l : List Bool} (h : BL w b v l) (k : Kp X w w') (hX : ¬ X b) : BL w' b v l :=
  ⟨h.eq, fun j u hu => k.cell hX (h.at' j u hu), Nat.lt_of_lt_of_le h.old k.size⟩
def EndsPost (R : List Bool) (w : World) (e : Ending) (w' : World) : Prop := ∃ r b2, e = .returned r ∧ BL w' b2 r R ∧ Below w.heap.size w w'
theorem run_mkB1 (n : Nat) (w : World) (hn : n ≤ 274877906944) : (mkB (.int .i64 ((n : Int) + 1)) (.int .i64 ((n : Int) + 1))).run Tryz.prog w = .ok (.slice (some ⟨w.heap.size, 0, none⟩) (n + 1) (n + 1)) (w.alloc (.cells (Array.replicate (n + 1) (.bool false)) 4)) := makeBools (n + 1) (by omega) w
end Go.Proofs.YtpfgmiocdgfniaaGreatFmt
