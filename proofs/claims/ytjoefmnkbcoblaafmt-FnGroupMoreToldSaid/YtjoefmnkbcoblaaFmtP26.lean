/- Joined by pack.py: WalkA, RdD, RdE. -/
import Derived.Test.YtjoefmnkbcoblaaFmtChecked
import Derived.Test.YtjoefmnkbcoblaaFmtP01
import Derived.WalkKit
import Derived.ProofKit
import Derived.WalkLawsBesides
import Derived.WalkSpells
import Derived.Outline
import Derived.Lib.Hide
import Derived.Test.YtjoefmnkbcoblaaFmtP25
/- Walks: letter, WordOk, Ascii, HasMeta. -/
namespace Go.Proofs.YtjoefmnkbcoblaaFmt
open Go.ChangeShapes Go.WideShapes Go.ChangeAt Go.RowKit
set_option linter.unusedVariables false

theorem ret_bool {a b : Bool} (h : a = b) : Ending.returned (.bool a) = .returned (.bool b) := by rw [h]

set_option maxHeartbeats 400000 in
theorem letter_any (n : Int) (w : World) : Calls Tryf.prog 23 #[.int .u8 n] w fun e w' => e = .returned (.bool (Pat.letterI n)) ∧ w = w' := by
  go_enter Tryf.func23, Tryf.ntmps23
  go_wp2
  all_goals go_ret
  all_goals exact ⟨ret_bool (by rw [Bool.eq_iff_iff]; simp [Pat.letterI]; omega), rfl⟩

set_option maxHeartbeats 400000 in
theorem wordOk_any (s : ByteArray) (w : World) (hs : s.size ≤ maxLen) :
    Calls Tryf.prog 17 #[.string s] w fun e w' => e = .returned (.bool (Pat.wordL s.data.toList)) ∧ w = w' := by
  unfold maxLen at hs
  go_enter Tryf.func17, Tryf.ntmps17
  go_wp2
  go_loop [3] (fun i => ∃ k : Nat, k ≤ s.size ∧ i = .int .i64 k ∧ Hid (Pat.wordL s.data.toList = Pat.wordL (s.data.toList.drop k))) (fun i => s.size - (intOf i).toNat)
  case atStart => exact ⟨0, Nat.zero_le _, rfl, Lib.hid rfl⟩
  case round =>
    obtain ⟨k, hk, rfl, H⟩ := hrel
    by_cases hlt : k < s.size
    · have HD := Lib.hid (Pat.drop_cons s k hlt)
      go_wp2_with (go_at_call 23; refine (letter_any _ _).mono ?_; rintro e w' ⟨rfl, rfl⟩)
      · go_round
        case rel => exact ⟨k + 1, by omega, by go_num, Lib.hid (by rw [H.out, HD.out]; simp [Pat.wordL, Pat.wordI, *])⟩
        case measure => simp [intOf]; omega
      · go_ret
        exact ⟨ret_bool (by rw [H.out, HD.out]; simp_all [Pat.wordL, Pat.wordI]), rfl⟩
      · go_round
        case rel => exact ⟨k + 1, by omega, by go_num, Lib.hid (by rw [H.out, HD.out]; simp_all [Pat.wordL, Pat.wordI])⟩
        case measure => simp [intOf]; omega
    · go_wp2
      go_ret
      exact ⟨ret_bool (by rw [H.out, Pat.drop_end s k (by omega)]; rfl), rfl⟩

end Go.Proofs.YtjoefmnkbcoblaaFmt

/- Walks: the reader's closure of any byte; named, escaped at a byte that is no letter. -/
namespace Go.Proofs.YtjoefmnkbcoblaaFmt
open Go.RowKit
set_option linter.unusedVariables false

set_option maxHeartbeats 1000000 in
theorem dotc_any (b x : Nat) (dot : Bool) (w : World) (h : w.cell? ⟨b, 0, none⟩ = some (.bool dot)) : Calls Tryf.prog 59 #[.int .u8 x, .pointer (some ⟨b, 0, none⟩)] w fun e w' => e = .returned (.bool (dot || x != 10)) ∧ w = w' := by
  have hx : ((x : Int) != 10) = (x != 10) := by
    rw [Bool.eq_iff_iff]; simp; omega
  have H := Lib.hid hx
  clear hx
  cases dot
  · go_enter Tryf.func59, Tryf.ntmps59
    go_wp2
    go_ret
    exact ⟨by rw [← H.out]; rfl, rfl⟩
  · go_enter Tryf.func59, Tryf.ntmps59
    go_wp2
    go_ret
    exact ⟨rfl, rfl⟩
theorem ne_u8 {c n : Nat} (h : c ≠ n) : (((c : Nat) : Int) == (n : Int)) = false := by
  rw [beq_eq_false_iff_ne]; omega
theorem ltr_no {c : Nat} (h : Re.ltr c = false) : (c < 48 ∨ 57 < c) ∧ (c < 97 ∨ 122 < c) ∧ (c < 65 ∨ 90 < c) := by
  simp [Re.ltr] at h; omega
set_option maxHeartbeats 1000000 in
theorem named_no (c : Nat) (w : World) (h : Re.ltr c = false) : Calls Tryf.prog 60 #[.int .u8 c] w fun e w' => e = .returned (.tuple #[.nilFunc, .bool false, .bool false]) ∧ w = w' := by
  have hl := ltr_no h
  have h1 := ne_u8 (c := c) (n := 100) (by omega)
  have h2 := ne_u8 (c := c) (n := 68) (by omega)
  have h3 := ne_u8 (c := c) (n := 119) (by omega)
  have h4 := ne_u8 (c := c) (n := 87) (by omega)
  have h5 := ne_u8 (c := c) (n := 115) (by omega)
  have h6 := ne_u8 (c := c) (n := 83) (by omega)
  simp only [Int.cast_ofNat_Int] at h1 h2 h3 h4 h5 h6
  clear hl h
  go_enter Tryf.func60, Tryf.ntmps60
  go_wp2
  go_ret3
  exact ⟨rfl, rfl⟩
set_option maxHeartbeats 1000000 in
set_option maxRecDepth 100000 in
theorem escaped_any (rb : Nat) (s : ByteArray) (i : Nat) (ok : Bool) (c : Nat) (r : List UInt8) (w : World) (h : RS rb s i ok w) (hs : s.size ≤ 4611686018427387904) (hr : Rm s i (UInt8.ofNat c :: r)) (hc : c < 128) (hl : Re.ltr c = false) :
    Calls Tryf.prog 61 #[.pointer (some ⟨rb, 0, none⟩)] w fun e w' => e = .returned (.tuple #[.int .u8 c, .bool true]) ∧ RS rb s (i + 1) ok w' ∧ Kp (· = rb) w w' := by
  obtain ⟨c0, c1, c2, f1, f2, hlt⟩ := h.cells
  obtain ⟨hi, hat⟩ := hr.at
  have hn := ltr_no hl
  have h1 := ne_u8 (c := c) (n := 97) (by omega)
  have h2 := ne_u8 (c := c) (n := 116) (by omega)
  have h3 := ne_u8 (c := c) (n := 110) (by omega)
  have h4 := ne_u8 (c := c) (n := 118) (by omega)
  have h5 := ne_u8 (c := c) (n := 102) (by omega)
  have h6 := ne_u8 (c := c) (n := 114) (by omega)
  have h7 := ne_u8 (c := c) (n := 120) (by omega)
  simp only [Int.cast_ofNat_Int] at h1 h2 h3 h4 h5 h6 h7
  have hsi : (((s[i]'hi).toNat : Nat) : Int) = (c : Int) := by rw [hat]; simp; omega
  have hle : decide (s.size ≤ i) = false := by simp; omega
  have hcl : decide ((c : Int) < 128) = true := by simp; omega
  have hlet : Pat.letterI (c : Int) = false := by
    simp [Pat.letterI]; omega
  have HL : Hid (∀ w, Calls Tryf.prog 23 #[.int .u8 c] w fun e w' => e = .returned (.bool false) ∧ w = w') := Lib.hid fun w => by rw [← hlet]; exact letter_any c w
  have hw : IntKind.i64.wrap ((i : Int) + 1) = (i : Int) + 1 := IntWalk.i64_in _ (by omega)
  have H := Lib.hid h
  clear h hr hat hlet hn hl
  go_enter Tryf.func61, Tryf.ntmps61
  go_wp2
  go_quiet (fail)
  rename Nat => n1
  go_wp2
  go_quiet (fail)
  rename Nat => n2
  have HD : Hid (RS rb s i ok (w.drewN (n1 + n2))) := Lib.hid (H.out.drew _)
  have KD : Hid (Kp (· = rb) w (w.drewN (n1 + n2))) := Lib.hid (Kp.drewN _ (Kp.refl _ w))
  go_wp2_with fail
  refine (HL.out _).mono ?_
  rintro e w1 ⟨rfl, rfl⟩
  go_wp2_with fail
  go_ret2
  refine ⟨rfl, ?_, ?_⟩
  · exact RS.set (j := i + 1) HD.out
  · exact KD.out.setCell (p := ⟨rb, 1, none⟩) (.inl rfl) _
end Go.Proofs.YtjoefmnkbcoblaaFmt

/- Walks: atom, at things without kids. -/
namespace Go.Proofs.YtjoefmnkbcoblaaFmt
open Go.RowKit
set_option linter.unusedVariables false

/-- the flags in block fb -/
def FS (fb : Nat) (fold dot : Bool) (w : World) : Prop := w.heap[fb]? = some (.cells #[.bool fold, .bool dot] tFl (0, 0))
theorem FS.cells {fb : Nat} {fold dot : Bool} {w : World} (h : FS fb fold dot w) : w.cell? ⟨fb, 0, none⟩ = some (.bool fold) ∧ w.cell? ⟨fb, 1, none⟩ = some (.bool dot) ∧ fb < w.heap.size :=
  ⟨by rw [Lib.cell_of_heap h]; rfl, by rw [Lib.cell_of_heap h]; rfl, (Array.getElem?_eq_some_iff.1 h).1⟩
theorem blk_ne {w : World} {x y : Nat} {c d : Array Value} {t u : TypeId} {f g : Nat × Nat} (hx : w.heap[x]? = some (.cells c t f)) (hy : w.heap[y]? = some (.cells d u g)) (h : t ≠ u) : x ≠ y := by
  rintro rfl
  rw [hx] at hy
  simp only [Option.some.injEq, Obj.cells.injEq] at hy
  exact h hy.2.1
/-- what atom leaves at a thing without kids -/
def AtPost (rb : Nat) (s : ByteArray) (j : Nat) (k : Nat) (set : List Bool) (w : World) (e : Ending) (w' : World) : Prop :=
  e = .returned (.agg (reC k (set.map .bool) (.slice none 0 0) 0 0)) ∧ RS rb s j true w' ∧ Kp (· = rb) w w'
theorem pre_no {c d : UInt8} {l r : List UInt8} (h : d ≠ c) : List.isPrefixOf (d :: l) (c :: r) = false := by
  simp [List.isPrefixOf, h]
theorem of_ne {c n : Nat} (hc : c < 128) (hn : n < 128) (h : c ≠ n) : UInt8.ofNat n ≠ UInt8.ofNat c := by
  intro e
  have := congrArg UInt8.toNat e
  simp at this
  omega
/-- behind the reading: the place is j; the block of the result is new -/
def Mid (rb : Nat) (s : ByteArray) (j : Nat) (w V : World) : Prop := RS rb s j true V ∧ Kp (· = rb) w V ∧ V.heap[w.heap.size]? = some (.cells reZ tRe (0, 0))
theorem Mid.below {rb : Nat} {s : ByteArray} {j : Nat} {w V w1 : World} (h : Mid rb s j w V) (hb : Below V.heap.size V w1) : Mid rb s j w w1 :=
  ⟨h.1.kept (X := fun _ => False) (.of_below hb) id, h.2.1.trans (.of_below hb), (Kp.of_below (X := fun _ => False) hb).heap id h.2.2⟩
theorem Mid.start {rb : Nat} {s : ByteArray} {i : Nat} {w : World} (h : RS rb s i true w) : Mid rb s i w (w.alloc (.cells reZ tRe)) :=
  ⟨h.kept ((Kp.refl (fun _ => False) w).alloc _) id, (Kp.refl _ w).alloc _, heap_alloc_new w _⟩
theorem Mid.drew {rb : Nat} {s : ByteArray} {i : Nat} {w V : World} (n : Nat) (h : Mid rb s i w V) : Mid rb s i w (V.drewN n) := ⟨h.1.drew n, h.2.1.drewN n, h.2.2⟩
theorem Mid.set {rb : Nat} {s : ByteArray} {i j : Nat} {w V : World} (h : Mid rb s i w V) (hlt : rb < w.heap.size) : Mid rb s j w (V.setCell ⟨rb, 1, none⟩ (.int .i64 j)) :=
  ⟨h.1.set, h.2.1.setCell (p := ⟨rb, 1, none⟩) (.inl rfl) _, by rw [heap_setCell_other _ _ _ _ (by show w.heap.size ≠ rb; omega)]; exact h.2.2⟩
theorem Mid.call {rb : Nat} {s : ByteArray} {i j : Nat} {w V w1 : World} (h : Mid rb s i w V) (hlt : rb < w.heap.size) (hr : RS rb s j true w1) (k : Kp (· = rb) V w1) : Mid rb s j w w1 :=
  ⟨hr, h.2.1.trans k, k.heap (by show ¬ w.heap.size = rb; omega) h.2.2⟩
theorem at_done {rb : Nat} {s : ByteArray} {j k : Nat} {set : List Bool} {w V : World} {tmps : Array Value} (h : Mid rb s j w V) (hl : set.length = 128) (hp : tmps.getD 4 undef = .pointer (some ⟨w.heap.size, 0, none⟩)) :
    bodyPost Tryf.prog Tryf.f36 (AtPost rb s j k set w) .ret ⟨tmps, []⟩ (V.setRow w.heap.size (reC k (set.map .bool) (.slice none 0 0) 0 0)) := by
  have hb : rb < w.heap.size ∨ w.heap.size ≤ rb := by omega
  refine bodyPost_ret (v := .agg (reC k (set.map .bool) (.slice none 0 0) 0 0)) (resultRe Tryf.results36 _ _ w.heap.size _ hp (setRow_heap _ _ reZ _ tRe (0, 0) h.2.2) (reC_size (by simpa using hl))) rfl ⟨rfl, ?_, h.2.1.setRow (.inr (Nat.le_refl _)) _⟩
  have hne : rb ≠ w.heap.size := fun e => by
    have h1 := h.1
    rw [e] at h1
    have := h1.symm.trans h.2.2
    simp only [Option.some.injEq, Obj.cells.injEq] at this
    exact absurd this.2.1 (by decide)
  unfold RS
  rw [setRow_other _ _ _ _ hne]
  exact h.1
set_option maxHeartbeats 4000000 in
set_option maxRecDepth 100000 in
theorem atom_lit (rb fb : Nat) (s : ByteArray) (i : Nat) (c : Nat) (r : List UInt8) (fold dot : Bool) (w : World) (h : RS rb s i true w) (hf : FS fb fold dot w) (hs : s.size ≤ 4611686018427387904) (hr : Rm s i (UInt8.ofNat c :: r)) (hc : Re.litOk c = true) :
    Calls Tryf.prog 36 #[.pointer (some ⟨rb, 0, none⟩), .pointer (some ⟨fb, 0, none⟩)] w (AtPost rb s (i + 1) 1 (Re.setL (fun x => x == c) fold false) w) := by
  have hz := zeroRe
  simp only [Re.litOk, Bool.and_eq_true, decide_eq_true_eq, Bool.not_eq_true', Bool.or_eq_false_iff, beq_eq_false_iff_ne] at hc
  obtain ⟨hc1, hc2⟩ := hc
  obtain ⟨hi, hat⟩ := hr.at
  obtain ⟨f0, f1, hfl⟩ := hf.cells
  have P40 := Lib.hid (pre_no (l := []) (r := r) (of_ne (n := 40) hc1 (by omega) (by omega)))
  have P91 := Lib.hid (pre_no (l := []) (r := r) (of_ne (n := 91) hc1 (by omega) (by omega)))
  have P46 := Lib.hid (pre_no (l := []) (r := r) (of_ne (n := 46) hc1 (by omega) (by omega)))
  have P94 := Lib.hid (pre_no (l := []) (r := r) (of_ne (n := 94) hc1 (by omega) (by omega)))
  have P36 := Lib.hid (pre_no (l := []) (r := r) (of_ne (n := 36) hc1 (by omega) (by omega)))
  have P92 := Lib.hid (pre_no (l := []) (r := r) (of_ne (n := 92) hc1 (by omega) (by omega)))
  have P92a := Lib.hid (pre_no (l := [65]) (r := r) (of_ne (n := 92) hc1 (by omega) (by omega)))
  have P92z := Lib.hid (pre_no (l := [122]) (r := r) (of_ne (n := 92) hc1 (by omega) (by omega)))
  have h42 := ne_u8 (c := c) (n := 42) (by omega)
  have h43 := ne_u8 (c := c) (n := 43) (by omega)
  have h63 := ne_u8 (c := c) (n := 63) (by omega)
  simp only [Int.cast_ofNat_Int] at h42 h43 h63
  have hsi : (((s[i]'hi).toNat : Nat) : Int) = (c : Int) := by rw [hat]; simp; omega
  have hc127 : decide ((c : Int) > 127) = false := by simp; omega
  have hw1 : IntKind.i64.wrap ((i : Int) + 1) = (i : Int) + 1 := IntWalk.i64_in _ (by omega)
  obtain ⟨c0, c1, c2, q1, q2, hlt⟩ := h.cells
  have hne : fb ≠ rb := blk_ne hf h (by decide)
  have hne2 : rb ≠ fb := fun e => hne e.symm
  have HV : Hid (∀ n, Mid rb s (i + 1) w (((w.alloc (.cells reZ tRe)).drewN n).setCell ⟨rb, 1, none⟩ (.int .i64 ((i : Int) + 1)))) := Lib.hid fun n => ((Mid.start h).drew n).set hlt
  have HS0 : Hid (RS rb s i true (w.alloc (.cells reZ tRe))) := Lib.hid (h.kept ((Kp.refl (fun _ => False) w).alloc _) id)
  have H := Lib.hid h
  have HR := Lib.hid hr
  have HF := Lib.hid hf
  have H2 := Lib.hid hc2
  clear h hr hf hc2 hat
  go_enter Tryf.func36, Tryf.ntmps36
  go_wp2_with (go_at_call 34; refine (skip_f rb s _ i true _ _ (by first | exact HS0.out | exact HS0.out.drew _) hs (by decide) HR.out (by first | exact P40.out | exact P91.out | exact P46.out | exact P94.out | exact P36.out | exact P92.out | exact P92a.out | exact P92z.out)).mono ?_; rintro e w' ⟨rfl, m, rfl⟩)
  go_quiet (fail)
  go_wp2_with fail
  refine (one_any c fold dot _).mono ?_
  rintro e w1 ⟨rfl, hb⟩
  have hk := (HV.out _).below hb
  have HK := Lib.hid hk
  clear hb hk
  go_wp2_with fail
  rw [storeRe _ w.heap.size reZ _ HK.out.2.2 rfl rfl (oneC_reC oneC_map rfl)]
  go_wp2
  exact at_done HK.out (by simp [Re.setL]) rfl
end Go.Proofs.YtjoefmnkbcoblaaFmt
