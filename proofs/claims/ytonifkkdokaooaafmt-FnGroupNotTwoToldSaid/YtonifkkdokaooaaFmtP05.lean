/- Joined by pack.py: WalkA, RdD, RdE, RdF, RdG, RdBs, RdK. -/
import Derived.Test.YtonifkkdokaooaaFmtChecked
import Derived.Test.YtonifkkdokaooaaFmtP01
import Derived.WalkKit
import Derived.ProofKit
import Derived.WalkLawsBesides
import Derived.WalkSpells
import Derived.Outline
import Derived.Lib.Hide
import Derived.Test.YtonifkkdokaooaaFmtP04
import Derived.Great.BuildSlice
/- Walks: letter, WordOk, Ascii, HasMeta. -/
namespace Go.Proofs.YtonifkkdokaooaaFmt
open Go.ChangeShapes Go.WideShapes Go.ChangeAt Go.RowKit
set_option linter.unusedVariables false

theorem ret_bool {a b : Bool} (h : a = b) : Ending.returned (.bool a) = .returned (.bool b) := by rw [h]

set_option maxHeartbeats 400000 in
theorem letter_any (n : Int) (w : World) : Calls Tryf.prog 26 #[.int .u8 n] w fun e w' => e = .returned (.bool (Pat.letterI n)) ∧ w = w' := by
  go_enter Tryf.func26, Tryf.ntmps26
  go_wp2
  all_goals go_ret
  all_goals exact ⟨ret_bool (by rw [Bool.eq_iff_iff]; simp [Pat.letterI]; omega), rfl⟩

set_option maxHeartbeats 400000 in
theorem wordOk_any (s : ByteArray) (w : World) (hs : s.size ≤ maxLen) :
    Calls Tryf.prog 21 #[.string s] w fun e w' => e = .returned (.bool (Pat.wordL s.data.toList)) ∧ w = w' := by
  unfold maxLen at hs
  go_enter Tryf.func21, Tryf.ntmps21
  go_wp2
  go_loop [3] (fun i => ∃ k : Nat, k ≤ s.size ∧ i = .int .i64 k ∧ Hid (Pat.wordL s.data.toList = Pat.wordL (s.data.toList.drop k))) (fun i => s.size - (intOf i).toNat)
  case atStart => exact ⟨0, Nat.zero_le _, rfl, Lib.hid rfl⟩
  case round =>
    obtain ⟨k, hk, rfl, H⟩ := hrel
    by_cases hlt : k < s.size
    · have HD := Lib.hid (Pat.drop_cons s k hlt)
      go_wp2_with (go_at_call 26; refine (letter_any _ _).mono ?_; rintro e w' ⟨rfl, rfl⟩)
      · go_round
        case rel => exact ⟨k + 1, by omega, by go_num, Lib.hid (by rw [H.out, HD.out]; simp [Pat.wordL, Pat.wordI, *])⟩
        case measure => simp [intOf]; omega
      · go_ret
        exact ⟨ret_bool (by rw [H.out, HD.out]; simp_all [Pat.wordL, Pat.wordI]), rfl⟩
      · go_round
        case rel => exact ⟨k + 1, by omega, by go_num, Lib.hid (by rw [H.out, HD.out]; simp_all [Pat.wordL, Pat.wordI])⟩
        case measure => simp [intOf]; omega
    · go_wp2
      go_ret
      exact ⟨ret_bool (by rw [H.out, Pat.drop_end s k (by omega)]; rfl), rfl⟩

end Go.Proofs.YtonifkkdokaooaaFmt

/- Walks: the reader's closure of any byte; named, escaped at a byte that is no letter. -/
namespace Go.Proofs.YtonifkkdokaooaaFmt
open Go.RowKit
set_option linter.unusedVariables false

set_option maxHeartbeats 1000000 in
theorem dotc_any (b x : Nat) (dot : Bool) (w : World) (h : w.cell? ⟨b, 0, none⟩ = some (.bool dot)) : Calls Tryf.prog 60 #[.int .u8 x, .pointer (some ⟨b, 0, none⟩)] w fun e w' => e = .returned (.bool (dot || x != 10)) ∧ w = w' := by
  have hx : ((x : Int) != 10) = (x != 10) := by
    rw [Bool.eq_iff_iff]; simp; omega
  have H := Lib.hid hx
  clear hx
  cases dot
  · go_enter Tryf.func60, Tryf.ntmps60
    go_wp2
    go_ret
    exact ⟨by rw [← H.out]; rfl, rfl⟩
  · go_enter Tryf.func60, Tryf.ntmps60
    go_wp2
    go_ret
    exact ⟨rfl, rfl⟩
theorem ne_u8 {c n : Nat} (h : c ≠ n) : (((c : Nat) : Int) == (n : Int)) = false := by
  rw [beq_eq_false_iff_ne]; omega
theorem ltr_no {c : Nat} (h : Re.ltr c = false) : (c < 48 ∨ 57 < c) ∧ (c < 97 ∨ 122 < c) ∧ (c < 65 ∨ 90 < c) := by
  simp [Re.ltr] at h; omega
set_option maxHeartbeats 1000000 in
theorem named_no (c : Nat) (w : World) (h : Re.ltr c = false) : Calls Tryf.prog 61 #[.int .u8 c] w fun e w' => e = .returned (.tuple #[.nilFunc, .bool false, .bool false]) ∧ w = w' := by
  have hl := ltr_no h
  have h1 := ne_u8 (c := c) (n := 100) (by omega)
  have h2 := ne_u8 (c := c) (n := 68) (by omega)
  have h3 := ne_u8 (c := c) (n := 119) (by omega)
  have h4 := ne_u8 (c := c) (n := 87) (by omega)
  have h5 := ne_u8 (c := c) (n := 115) (by omega)
  have h6 := ne_u8 (c := c) (n := 83) (by omega)
  simp only [Int.cast_ofNat_Int] at h1 h2 h3 h4 h5 h6
  clear hl h
  go_enter Tryf.func61, Tryf.ntmps61
  go_wp2
  go_ret3
  exact ⟨rfl, rfl⟩
set_option maxHeartbeats 1000000 in
set_option maxRecDepth 100000 in
theorem escaped_any (rb : Nat) (s : ByteArray) (i : Nat) (ok : Bool) (c : Nat) (r : List UInt8) (w : World) (h : RS rb s i ok w) (hs : s.size ≤ 4611686018427387904) (hr : Rm s i (UInt8.ofNat c :: r)) (hc : c < 128) (hl : Re.ltr c = false) :
    Calls Tryf.prog 62 #[.pointer (some ⟨rb, 0, none⟩)] w fun e w' => e = .returned (.tuple #[.int .u8 c, .bool true]) ∧ RS rb s (i + 1) ok w' ∧ Kp (· = rb) w w' := by
  obtain ⟨c0, c1, c2, f1, f2, hlt⟩ := h.cells
  obtain ⟨hi, hat⟩ := hr.at
  have hn := ltr_no hl
  have h1 := ne_u8 (c := c) (n := 97) (by omega)
  have h2 := ne_u8 (c := c) (n := 116) (by omega)
  have h3 := ne_u8 (c := c) (n := 110) (by omega)
  have h4 := ne_u8 (c := c) (n := 118) (by omega)
  have h5 := ne_u8 (c := c) (n := 102) (by omega)
  have h6 := ne_u8 (c := c) (n := 114) (by omega)
  have h7 := ne_u8 (c := c) (n := 120) (by omega)
  simp only [Int.cast_ofNat_Int] at h1 h2 h3 h4 h5 h6 h7
  have hsi : (((s[i]'hi).toNat : Nat) : Int) = (c : Int) := by rw [hat]; simp; omega
  have hle : decide (s.size ≤ i) = false := by simp; omega
  have hcl : decide ((c : Int) < 128) = true := by simp; omega
  have hlet : Pat.letterI (c : Int) = false := by
    simp [Pat.letterI]; omega
  have HL : Hid (∀ w, Calls Tryf.prog 26 #[.int .u8 c] w fun e w' => e = .returned (.bool false) ∧ w = w') := Lib.hid fun w => by rw [← hlet]; exact letter_any c w
  have hw : IntKind.i64.wrap ((i : Int) + 1) = (i : Int) + 1 := IntWalk.i64_in _ (by omega)
  have H := Lib.hid h
  clear h hr hat hlet hn hl
  go_enter Tryf.func62, Tryf.ntmps62
  go_wp2
  go_quiet (fail)
  rename Nat => n1
  go_wp2
  go_quiet (fail)
  rename Nat => n2
  have HD : Hid (RS rb s i ok (w.drewN (n1 + n2))) := Lib.hid (H.out.drew _)
  have KD : Hid (Kp (· = rb) w (w.drewN (n1 + n2))) := Lib.hid (Kp.drewN _ (Kp.refl _ w))
  go_wp2_with fail
  refine (HL.out _).mono ?_
  rintro e w1 ⟨rfl, rfl⟩
  go_wp2_with fail
  go_ret2
  refine ⟨rfl, ?_, ?_⟩
  · exact RS.set (j := i + 1) HD.out
  · exact KD.out.setCell (p := ⟨rb, 1, none⟩) (.inl rfl) _
end Go.Proofs.YtonifkkdokaooaaFmt

/- Walks: atom, at things without kids. -/
namespace Go.Proofs.YtonifkkdokaooaaFmt
open Go.RowKit
set_option linter.unusedVariables false

/-- the flags in block fb -/
def FS (fb : Nat) (fold dot : Bool) (w : World) : Prop := w.heap[fb]? = some (.cells #[.bool fold, .bool dot] tFl (0, 0))
theorem FS.cells {fb : Nat} {fold dot : Bool} {w : World} (h : FS fb fold dot w) : w.cell? ⟨fb, 0, none⟩ = some (.bool fold) ∧ w.cell? ⟨fb, 1, none⟩ = some (.bool dot) ∧ fb < w.heap.size :=
  ⟨by rw [Lib.cell_of_heap h]; rfl, by rw [Lib.cell_of_heap h]; rfl, (Array.getElem?_eq_some_iff.1 h).1⟩
theorem blk_ne {w : World} {x y : Nat} {c d : Array Value} {t u : TypeId} {f g : Nat × Nat} (hx : w.heap[x]? = some (.cells c t f)) (hy : w.heap[y]? = some (.cells d u g)) (h : t ≠ u) : x ≠ y := by
  rintro rfl
  rw [hx] at hy
  simp only [Option.some.injEq, Obj.cells.injEq] at hy
  exact h hy.2.1
/-- what atom leaves at a thing without kids -/
def AtPost (rb : Nat) (s : ByteArray) (j : Nat) (k : Nat) (set : List Bool) (w : World) (e : Ending) (w' : World) : Prop :=
  e = .returned (.agg (reC k (set.map .bool) (.slice none 0 0) 0 0)) ∧ RS rb s j true w' ∧ Kp (· = rb) w w'
theorem pre_no {c d : UInt8} {l r : List UInt8} (h : d ≠ c) : List.isPrefixOf (d :: l) (c :: r) = false := by
  simp [List.isPrefixOf, h]
theorem of_ne {c n : Nat} (hc : c < 128) (hn : n < 128) (h : c ≠ n) : UInt8.ofNat n ≠ UInt8.ofNat c := by
  intro e
  have := congrArg UInt8.toNat e
  simp at this
  omega
/-- behind the reading: the place is j; the block of the result is new -/
def Mid (rb : Nat) (s : ByteArray) (j : Nat) (w V : World) : Prop := RS rb s j true V ∧ Kp (· = rb) w V ∧ V.heap[w.heap.size]? = some (.cells reZ tRe (0, 0))
theorem Mid.below {rb : Nat} {s : ByteArray} {j : Nat} {w V w1 : World} (h : Mid rb s j w V) (hb : Below V.heap.size V w1) : Mid rb s j w w1 :=
  ⟨h.1.kept (X := fun _ => False) (.of_below hb) id, h.2.1.trans (.of_below hb), (Kp.of_below (X := fun _ => False) hb).heap id h.2.2⟩
theorem Mid.start {rb : Nat} {s : ByteArray} {i : Nat} {w : World} (h : RS rb s i true w) : Mid rb s i w (w.alloc (.cells reZ tRe)) :=
  ⟨h.kept ((Kp.refl (fun _ => False) w).alloc _) id, (Kp.refl _ w).alloc _, heap_alloc_new w _⟩
theorem Mid.drew {rb : Nat} {s : ByteArray} {i : Nat} {w V : World} (n : Nat) (h : Mid rb s i w V) : Mid rb s i w (V.drewN n) := ⟨h.1.drew n, h.2.1.drewN n, h.2.2⟩
theorem Mid.set {rb : Nat} {s : ByteArray} {i j : Nat} {w V : World} (h : Mid rb s i w V) (hlt : rb < w.heap.size) : Mid rb s j w (V.setCell ⟨rb, 1, none⟩ (.int .i64 j)) :=
  ⟨h.1.set, h.2.1.setCell (p := ⟨rb, 1, none⟩) (.inl rfl) _, by rw [heap_setCell_other _ _ _ _ (by show w.heap.size ≠ rb; omega)]; exact h.2.2⟩
theorem Mid.call {rb : Nat} {s : ByteArray} {i j : Nat} {w V w1 : World} (h : Mid rb s i w V) (hlt : rb < w.heap.size) (hr : RS rb s j true w1) (k : Kp (· = rb) V w1) : Mid rb s j w w1 :=
  ⟨hr, h.2.1.trans k, k.heap (by show ¬ w.heap.size = rb; omega) h.2.2⟩
theorem at_done {rb : Nat} {s : ByteArray} {j k : Nat} {set : List Bool} {w V : World} {tmps : Array Value} (h : Mid rb s j w V) (hl : set.length = 128) (hp : tmps.getD 4 undef = .pointer (some ⟨w.heap.size, 0, none⟩)) :
    bodyPost Tryf.prog Tryf.f37 (AtPost rb s j k set w) .ret ⟨tmps, []⟩ (V.setRow w.heap.size (reC k (set.map .bool) (.slice none 0 0) 0 0)) := by
  have hb : rb < w.heap.size ∨ w.heap.size ≤ rb := by omega
  refine bodyPost_ret (v := .agg (reC k (set.map .bool) (.slice none 0 0) 0 0)) (resultRe Tryf.results37 _ _ w.heap.size _ hp (setRow_heap _ _ reZ _ tRe (0, 0) h.2.2) (reC_size (by simpa using hl))) rfl ⟨rfl, ?_, h.2.1.setRow (.inr (Nat.le_refl _)) _⟩
  have hne : rb ≠ w.heap.size := fun e => by
    have h1 := h.1
    rw [e] at h1
    have := h1.symm.trans h.2.2
    simp only [Option.some.injEq, Obj.cells.injEq] at this
    exact absurd this.2.1 (by decide)
  unfold RS
  rw [setRow_other _ _ _ _ hne]
  exact h.1
set_option maxHeartbeats 4000000 in
set_option maxRecDepth 100000 in
theorem atom_lit (rb fb : Nat) (s : ByteArray) (i : Nat) (c : Nat) (r : List UInt8) (fold dot : Bool) (w : World) (h : RS rb s i true w) (hf : FS fb fold dot w) (hs : s.size ≤ 4611686018427387904) (hr : Rm s i (UInt8.ofNat c :: r)) (hc : Re.litOk c = true) :
    Calls Tryf.prog 37 #[.pointer (some ⟨rb, 0, none⟩), .pointer (some ⟨fb, 0, none⟩)] w (AtPost rb s (i + 1) 1 (Re.setL (fun x => x == c) fold false) w) := by
  have hz := zeroRe
  simp only [Re.litOk, Bool.and_eq_true, decide_eq_true_eq, Bool.not_eq_true', Bool.or_eq_false_iff, beq_eq_false_iff_ne] at hc
  obtain ⟨hc1, hc2⟩ := hc
  obtain ⟨hi, hat⟩ := hr.at
  obtain ⟨f0, f1, hfl⟩ := hf.cells
  have P40 := Lib.hid (pre_no (l := []) (r := r) (of_ne (n := 40) hc1 (by omega) (by omega)))
  have P91 := Lib.hid (pre_no (l := []) (r := r) (of_ne (n := 91) hc1 (by omega) (by omega)))
  have P46 := Lib.hid (pre_no (l := []) (r := r) (of_ne (n := 46) hc1 (by omega) (by omega)))
  have P94 := Lib.hid (pre_no (l := []) (r := r) (of_ne (n := 94) hc1 (by omega) (by omega)))
  have P36 := Lib.hid (pre_no (l := []) (r := r) (of_ne (n := 36) hc1 (by omega) (by omega)))
  have P92 := Lib.hid (pre_no (l := []) (r := r) (of_ne (n := 92) hc1 (by omega) (by omega)))
  have P92a := Lib.hid (pre_no (l := [65]) (r := r) (of_ne (n := 92) hc1 (by omega) (by omega)))
  have P92z := Lib.hid (pre_no (l := [122]) (r := r) (of_ne (n := 92) hc1 (by omega) (by omega)))
  have h42 := ne_u8 (c := c) (n := 42) (by omega)
  have h43 := ne_u8 (c := c) (n := 43) (by omega)
  have h63 := ne_u8 (c := c) (n := 63) (by omega)
  simp only [Int.cast_ofNat_Int] at h42 h43 h63
  have hsi : (((s[i]'hi).toNat : Nat) : Int) = (c : Int) := by rw [hat]; simp; omega
  have hc127 : decide ((c : Int) > 127) = false := by simp; omega
  have hw1 : IntKind.i64.wrap ((i : Int) + 1) = (i : Int) + 1 := IntWalk.i64_in _ (by omega)
  obtain ⟨c0, c1, c2, q1, q2, hlt⟩ := h.cells
  have hne : fb ≠ rb := blk_ne hf h (by decide)
  have hne2 : rb ≠ fb := fun e => hne e.symm
  have HV : Hid (∀ n, Mid rb s (i + 1) w (((w.alloc (.cells reZ tRe)).drewN n).setCell ⟨rb, 1, none⟩ (.int .i64 ((i : Int) + 1)))) := Lib.hid fun n => ((Mid.start h).drew n).set hlt
  have HS0 : Hid (RS rb s i true (w.alloc (.cells reZ tRe))) := Lib.hid (h.kept ((Kp.refl (fun _ => False) w).alloc _) id)
  have H := Lib.hid h
  have HR := Lib.hid hr
  have HF := Lib.hid hf
  have H2 := Lib.hid hc2
  clear h hr hf hc2 hat
  go_enter Tryf.func37, Tryf.ntmps37
  go_wp2_with (go_at_call 35; refine (skip_f rb s _ i true _ _ (by first | exact HS0.out | exact HS0.out.drew _) hs (by decide) HR.out (by first | exact P40.out | exact P91.out | exact P46.out | exact P94.out | exact P36.out | exact P92.out | exact P92a.out | exact P92z.out)).mono ?_; rintro e w' ⟨rfl, m, rfl⟩)
  go_quiet (fail)
  go_wp2_with fail
  refine (one_any c fold dot _).mono ?_
  rintro e w1 ⟨rfl, hb⟩
  have hk := (HV.out _).below hb
  have HK := Lib.hid hk
  clear hb hk
  go_wp2_with fail
  rw [storeRe _ w.heap.size reZ _ HK.out.2.2 rfl rfl (oneC_reC oneC_map rfl)]
  go_wp2
  exact at_done HK.out (by simp [Re.setL]) rfl
end Go.Proofs.YtonifkkdokaooaaFmt

/- Walks: atom at a byte behind a backslash, at any byte, at the beginning, at the end. -/
namespace Go.Proofs.YtonifkkdokaooaaFmt
open Go.RowKit
set_option linter.unusedVariables false

theorem FS.mid {rb fb : Nat} {s : ByteArray} {j : Nat} {fold dot : Bool} {w V : World} (h : FS fb fold dot w) (hne : fb ≠ rb) (m : Mid rb s j w V) : FS fb fold dot V := m.2.1.heap hne h
theorem pre_no2 {b c d : UInt8} {l r : List UInt8} (h : d ≠ c) : List.isPrefixOf (b :: d :: l) (b :: c :: r) = false := by
  simp [List.isPrefixOf, h]
set_option maxHeartbeats 4000000 in
set_option maxRecDepth 100000 in
theorem atom_esc (rb fb : Nat) (s : ByteArray) (i : Nat) (c : Nat) (r : List UInt8) (fold dot : Bool) (w : World) (h : RS rb s i true w) (hf : FS fb fold dot w) (hs : s.size ≤ 4611686018427387904) (hr : Rm s i (UInt8.ofNat 92 :: UInt8.ofNat c :: r)) (hc : c < 128) (hl : Re.ltr c = false) :
    Calls Tryf.prog 37 #[.pointer (some ⟨rb, 0, none⟩), .pointer (some ⟨fb, 0, none⟩)] w (AtPost rb s (i + 2) 1 (Re.setL (fun x => x == c) fold false) w) := by
  have hz := zeroRe
  have P40 := Lib.hid (pre_no (l := []) (r := UInt8.ofNat c :: r) (c := UInt8.ofNat 92) (d := UInt8.ofNat 40) (by decide))
  have P91 := Lib.hid (pre_no (l := []) (r := UInt8.ofNat c :: r) (c := UInt8.ofNat 92) (d := UInt8.ofNat 91) (by decide))
  have P46 := Lib.hid (pre_no (l := []) (r := UInt8.ofNat c :: r) (c := UInt8.ofNat 92) (d := UInt8.ofNat 46) (by decide))
  have P94 := Lib.hid (pre_no (l := []) (r := UInt8.ofNat c :: r) (c := UInt8.ofNat 92) (d := UInt8.ofNat 94) (by decide))
  have P36 := Lib.hid (pre_no (l := []) (r := UInt8.ofNat c :: r) (c := UInt8.ofNat 92) (d := UInt8.ofNat 36) (by decide))
  have hn := ltr_no hl
  have P65 := Lib.hid (pre_no2 (b := UInt8.ofNat 92) (l := []) (r := r) (of_ne (n := 65) hc (by omega) (by omega)))
  have P122 := Lib.hid (pre_no2 (b := UInt8.ofNat 92) (l := []) (r := r) (of_ne (n := 122) hc (by omega) (by omega)))
  have hsz := hr.size
  simp only [List.length_cons] at hsz
  obtain ⟨hi2, hat2⟩ := hr.tail.at
  have hsi : (((s[i + 1]'hi2).toNat : Nat) : Int) = (c : Int) := by rw [hat2]; simp; omega
  have hlt2 : decide (i + 1 < s.size) = true := by simp; omega
  have HT := Lib.hid hr.tail
  obtain ⟨hi, hat⟩ := hr.at
  obtain ⟨f0, f1, hfl⟩ := hf.cells
  obtain ⟨c0, c1, c2, q1, q2, hlt⟩ := h.cells
  have hne : fb ≠ rb := blk_ne hf h (by decide)
  have hne2 : rb ≠ fb := fun e => hne e.symm
  have HS0 : Hid (RS rb s i true (w.alloc (.cells reZ tRe))) := Lib.hid (h.kept ((Kp.refl (fun _ => False) w).alloc _) id)
  have HM0 : Hid (Mid rb s i w (w.alloc (.cells reZ tRe))) := Lib.hid (Mid.start h)
  have H := Lib.hid h
  have HR := Lib.hid hr
  have HF := Lib.hid hf
  have HL := Lib.hid hl
  clear h hr hf hat hat2 hn hl hsz
  go_enter Tryf.func37, Tryf.ntmps37
  go_wp2_with (go_at_call 35; refine (skip_f rb s _ i true _ _ (by first | exact HS0.out | exact HS0.out.drew _) hs (by decide) HR.out (by first | exact P40.out | exact P91.out | exact P46.out | exact P94.out | exact P36.out | exact P65.out | exact P122.out)).mono ?_; rintro e w' ⟨rfl, m, rfl⟩)
  refine (skip_t rb s ⟨#[92]⟩ i true _ _ (by first | exact HM0.out.1 | exact (HM0.out.drew _).1) hs HR.out).mono ?_
  rintro e w1 ⟨rfl, hr1, hk1⟩
  have M1 : Mid rb s (i + 1) w w1 := by first | exact HM0.out.call hlt hr1 hk1 | exact (HM0.out.drew _).call hlt hr1 hk1
  have HM := Lib.hid M1
  clear hr1 hk1
  have F1 := HF.out.mid hne M1
  obtain ⟨f0', f1', hfl'⟩ := F1.cells
  obtain ⟨c0', c1', c2', q1', q2', hlt'⟩ := M1.1.cells
  clear f0 f1 hfl c0 c1 c2 q1 q2 M1
  have hnm : ∀ w, Calls Tryf.prog 61 #[.int .u8 c] w fun e w' => e = .returned (.tuple #[.nilFunc, .bool false, .bool false]) ∧ w = w' := fun w => named_no c w HL.out
  have HN := Lib.hid hnm
  clear hnm
  go_wp2
  go_quiet (fail)
  go_wp2
  go_quiet ((go_at_call 61; exact (HN.out _).mono fun _ _ h => ⟨h.1, _, h.2.symm⟩))
  go_wp2_with fail
  refine (escaped_any rb s (i + 1) true c r _ (HM.out.1.drew _) hs HT.out hc HL.out).mono ?_
  rintro e w2 ⟨rfl, hr2, hk2⟩
  have M2 : Mid rb s (i + 2) w w2 := (HM.out.drew _).call hlt hr2 hk2
  have HM2 := Lib.hid M2
  have F2 := HF.out.mid hne M2
  obtain ⟨g0, g1, g2⟩ := F2.cells
  clear hr2 hk2 f0' f1' hfl' c0' c1' c2' q1' q2' M2 F2
  go_wp2_with fail
  refine (one_any c fold dot _).mono ?_
  rintro e w3 ⟨rfl, hb⟩
  have HK := Lib.hid (HM2.out.below hb)
  clear hb
  go_wp2_with fail
  rw [storeRe _ w.heap.size reZ _ HK.out.2.2 rfl rfl (oneC_reC oneC_map rfl)]
  go_wp2
  exact at_done HK.out (by simp [Re.setL]) rfl
set_option maxHeartbeats 4000000 in
set_option maxRecDepth 100000 in
theorem atom_dot (rb fb : Nat) (s : ByteArray) (i : Nat) (r : List UInt8) (fold dot : Bool) (w : World) (h : RS rb s i true w) (hf : FS fb fold dot w) (hs : s.size ≤ 4611686018427387904) (hr : Rm s i (UInt8.ofNat 46 :: r)) :
    Calls Tryf.prog 37 #[.pointer (some ⟨rb, 0, none⟩), .pointer (some ⟨fb, 0, none⟩)] w (AtPost rb s (i + 1) 1 (Re.setL (fun x => dot || x != 10) false false) w) := by
  have hz := zeroRe
  have P40 := Lib.hid (pre_no (l := []) (r := r) (c := UInt8.ofNat 46) (d := UInt8.ofNat 40) (by decide))
  have P91 := Lib.hid (pre_no (l := []) (r := r) (c := UInt8.ofNat 46) (d := UInt8.ofNat 91) (by decide))
  have e59 : ∀ args w, (callFunc 60 args).run Tryf.prog w = .ok (.enter 60 args) w := Go.Proofs.enters_of Tryf.func60 (by kernel_rfl) rfl
  have HE := Lib.hid e59
  clear e59
  obtain ⟨hi, hat⟩ := hr.at
  obtain ⟨f0, f1, hfl⟩ := hf.cells
  obtain ⟨c0, c1, c2, q1, q2, hlt⟩ := h.cells
  have hne : fb ≠ rb := blk_ne hf h (by decide)
  have hne2 : rb ≠ fb := fun e => hne e.symm
  have HS0 : Hid (RS rb s i true (w.alloc (.cells reZ tRe))) := Lib.hid (h.kept ((Kp.refl (fun _ => False) w).alloc _) id)
  have HM0 : Hid (Mid rb s i w (w.alloc (.cells reZ tRe))) := Lib.hid (Mid.start h)
  have H := Lib.hid h
  have HR := Lib.hid hr
  have HF := Lib.hid hf
  clear h hr hf hat
  go_enter Tryf.func37, Tryf.ntmps37
  go_wp2_with (go_at_call 35; refine (skip_f rb s _ i true _ _ (by first | exact HS0.out | exact HS0.out.drew _) hs (by decide) HR.out (by first | exact P40.out | exact P91.out)).mono ?_; rintro e w' ⟨rfl, m, rfl⟩)
  refine (skip_t rb s ⟨#[46]⟩ i true _ _ (by first | exact HM0.out.1 | exact (HM0.out.drew _).1) hs HR.out).mono ?_
  rintro e w1 ⟨rfl, hr1, hk1⟩
  have M1 : Mid rb s (i + 1) w w1 := by first | exact HM0.out.call hlt hr1 hk1 | exact (HM0.out.drew _).call hlt hr1 hk1
  have HM := Lib.hid M1
  clear hr1 hk1
  have F1 := HF.out.mid hne M1
  obtain ⟨f0', f1', hfl'⟩ := F1.cells
  obtain ⟨c0', c1', c2', q1', q2', hlt'⟩ := M1.1.cells
  clear f0 f1 hfl c0 c1 c2 q1 q2 M1
  go_wp2_with fail
  have hb0 : Below w1.heap.size w1 (w1.alloc (.cells #[.bool dot] 4)) := (Below.refl _ _).alloc (Nat.le_refl _) _
  have hcd : (w1.alloc (.cells #[.bool dot] 4)).cell? ⟨w1.heap.size, 0, none⟩ = some (.bool dot) := by rw [World.cell?_alloc_at _ _ _ _ rfl]; rfl
  refine (setOf_any 60 (.pointer (some ⟨w1.heap.size, 0, none⟩)) (fun x => dot || x != 10) false false false _ HE.out (fun x w' _ k => dotc_any w1.heap.size x dot w' (k.cell id hcd))).mono ?_
  rintro e w3 ⟨rfl, hb⟩
  have HK := Lib.hid ((HM.out.below hb0).below hb)
  clear hb hb0 hcd
  go_wp2_with fail
  rw [storeRe _ w.heap.size reZ _ HK.out.2.2 rfl rfl (oneC_reC oneC_map rfl)]
  go_wp2
  exact at_done HK.out (by simp [Re.setL]) rfl
set_option maxHeartbeats 4000000 in
set_option maxRecDepth 100000 in
theorem atom_beg (rb fb : Nat) (s : ByteArray) (i : Nat) (r : List UInt8) (fold dot : Bool) (w : World) (h : RS rb s i true w) (hf : FS fb fold dot w) (hs : s.size ≤ 4611686018427387904) (hr : Rm s i (UInt8.ofNat 94 :: r)) :
    Calls Tryf.prog 37 #[.pointer (some ⟨rb, 0, none⟩), .pointer (some ⟨fb, 0, none⟩)] w (AtPost rb s (i + 1) 5 (Re.no128) w) := by
  have hz := zeroRe
  have P40 := Lib.hid (pre_no (l := []) (r := r) (c := UInt8.ofNat 94) (d := UInt8.ofNat 40) (by decide))
  have P91 := Lib.hid (pre_no (l := []) (r := r) (c := UInt8.ofNat 94) (d := UInt8.ofNat 91) (by decide))
  have P46 := Lib.hid (pre_no (l := []) (r := r) (c := UInt8.ofNat 94) (d := UInt8.ofNat 46) (by decide))
  obtain ⟨hi, hat⟩ := hr.at
  obtain ⟨f0, f1, hfl⟩ := hf.cells
  obtain ⟨c0, c1, c2, q1, q2, hlt⟩ := h.cells
  have hne : fb ≠ rb := blk_ne hf h (by decide)
  have hne2 : rb ≠ fb := fun e => hne e.symm
  have HS0 : Hid (RS rb s i true (w.alloc (.cells reZ tRe))) := Lib.hid (h.kept ((Kp.refl (fun _ => False) w).alloc _) id)
  have HM0 : Hid (Mid rb s i w (w.alloc (.cells reZ tRe))) := Lib.hid (Mid.start h)
  have H := Lib.hid h
  have HR := Lib.hid hr
  have HF := Lib.hid hf
  clear h hr hf hat
  go_enter Tryf.func37, Tryf.ntmps37
  go_wp2_with (go_at_call 35; refine (skip_f rb s _ i true _ _ (by first | exact HS0.out | exact HS0.out.drew _) hs (by decide) HR.out (by first | exact P40.out | exact P91.out | exact P46.out)).mono ?_; rintro e w' ⟨rfl, m, rfl⟩)
  refine (skip_t rb s ⟨#[94]⟩ i true _ _ (by first | exact HM0.out.1 | exact (HM0.out.drew _).1) hs HR.out).mono ?_
  rintro e w1 ⟨rfl, hr1, hk1⟩
  have M1 : Mid rb s (i + 1) w w1 := by first | exact HM0.out.call hlt hr1 hk1 | exact (HM0.out.drew _).call hlt hr1 hk1
  have HM := Lib.hid M1
  clear hr1 hk1
  have F1 := HF.out.mid hne M1
  obtain ⟨f0', f1', hfl'⟩ := F1.cells
  obtain ⟨c0', c1', c2', q1', q2', hlt'⟩ := M1.1.cells
  clear f0 f1 hfl c0 c1 c2 q1 q2 M1
  go_wp2_with fail
  rw [storeRe _ w.heap.size reZ (reZ.toList.set 0 (.int .i64 5)) HM.out.2.2 rfl rfl (oneC_set2 5), reZ_set]
  go_wp2
  exact at_done (k := 5) (set := Re.no128) HM.out rfl rfl
set_option maxHeartbeats 4000000 in
set_option maxRecDepth 100000 in
theorem atom_fin (rb fb : Nat) (s : ByteArray) (i : Nat) (r : List UInt8) (fold dot : Bool) (w : World) (h : RS rb s i true w) (hf : FS fb fold dot w) (hs : s.size ≤ 4611686018427387904) (hr : Rm s i (UInt8.ofNat 36 :: r)) :
    Calls Tryf.prog 37 #[.pointer (some ⟨rb, 0, none⟩), .pointer (some ⟨fb, 0, none⟩)] w (AtPost rb s (i + 1) 6 (Re.no128) w) := by
  have hz := zeroRe
  have P40 := Lib.hid (pre_no (l := []) (r := r) (c := UInt8.ofNat 36) (d := UInt8.ofNat 40) (by decide))
  have P91 := Lib.hid (pre_no (l := []) (r := r) (c := UInt8.ofNat 36) (d := UInt8.ofNat 91) (by decide))
  have P46 := Lib.hid (pre_no (l := []) (r := r) (c := UInt8.ofNat 36) (d := UInt8.ofNat 46) (by decide))
  have P94 := Lib.hid (pre_no (l := []) (r := r) (c := UInt8.ofNat 36) (d := UInt8.ofNat 94) (by decide))
  have P65 := Lib.hid (pre_no (l := [65]) (r := r) (c := UInt8.ofNat 36) (d := UInt8.ofNat 92) (by decide))
  obtain ⟨hi, hat⟩ := hr.at
  obtain ⟨f0, f1, hfl⟩ := hf.cells
  obtain ⟨c0, c1, c2, q1, q2, hlt⟩ := h.cells
  have hne : fb ≠ rb := blk_ne hf h (by decide)
  have hne2 : rb ≠ fb := fun e => hne e.symm
  have HS0 : Hid (RS rb s i true (w.alloc (.cells reZ tRe))) := Lib.hid (h.kept ((Kp.refl (fun _ => False) w).alloc _) id)
  have HM0 : Hid (Mid rb s i w (w.alloc (.cells reZ tRe))) := Lib.hid (Mid.start h)
  have H := Lib.hid h
  have HR := Lib.hid hr
  have HF := Lib.hid hf
  clear h hr hf hat
  go_enter Tryf.func37, Tryf.ntmps37
  go_wp2_with (go_at_call 35; refine (skip_f rb s _ i true _ _ (by first | exact HS0.out | exact HS0.out.drew _) hs (by decide) HR.out (by first | exact P40.out | exact P91.out | exact P46.out | exact P94.out | exact P65.out)).mono ?_; rintro e w' ⟨rfl, m, rfl⟩)
  refine (skip_t rb s ⟨#[36]⟩ i true _ _ (by first | exact HM0.out.1 | exact (HM0.out.drew _).1) hs HR.out).mono ?_
  rintro e w1 ⟨rfl, hr1, hk1⟩
  have M1 : Mid rb s (i + 1) w w1 := by first | exact HM0.out.call hlt hr1 hk1 | exact (HM0.out.drew _).call hlt hr1 hk1
  have HM := Lib.hid M1
  clear hr1 hk1
  have F1 := HF.out.mid hne M1
  obtain ⟨f0', f1', hfl'⟩ := F1.cells
  obtain ⟨c0', c1', c2', q1', q2', hlt'⟩ := M1.1.cells
  clear f0 f1 hfl c0 c1 c2 q1 q2 M1
  go_wp2_with fail
  rw [storeRe _ w.heap.size reZ (reZ.toList.set 0 (.int .i64 6)) HM.out.2.2 rfl rfl (oneC_set2 6), reZ_set]
  go_wp2
  exact at_done (k := 6) (set := Re.no128) HM.out rfl rfl
end Go.Proofs.YtonifkkdokaooaaFmt

/- Trees in memory. -/
namespace Go.Proofs.YtonifkkdokaooaaFmt
open Go.RowKit
open Re (Fo)
set_option linter.unusedVariables false

/-- a slice of n nodes whose row lies in a block of which P holds -/
def Sl (P : Nat → Prop) (w : World) (v : Value) (n : Nat) (xs : List Value) : Prop :=
  xs.length = n * 132 ∧ ((v = .slice none 0 0 ∧ n = 0) ∨
    ∃ g cap cur, v = .slice (some ⟨g, 0, none⟩) n cap ∧ P g ∧ w.heap[g]? = some (.cells cur tRe (0, 0)) ∧ n ≤ cap ∧ cap ≤ maxLen ∧ cur.size = cap * 132 ∧ cur.toList.take (n * 132) = xs)
/-- the cells of nodes one behind the other -/
def FoC (P : Nat → Prop) (w : World) : Fo → List Value → Prop
  | .nil, xs => xs = []
  | .cons k set kids l m rest, xs => set.length = 128 ∧ ∃ kv cs ys, xs = (reC k (set.map .bool) kv l m).toList ++ ys ∧ Sl P w kv kids.len cs ∧ FoC P w kids cs ∧ FoC P w rest ys
/-- one node as a value -/
def Nd (P : Nat → Prop) (w : World) (k : Nat) (set : List Bool) (kids : Fo) (l m : Int) (c : Array Value) : Prop :=
  set.length = 128 ∧ ∃ kv cs, c = reC k (set.map .bool) kv l m ∧ Sl P w kv kids.len cs ∧ FoC P w kids cs
theorem Sl.mono {P Q : Nat → Prop} {w : World} {v : Value} {n : Nat} {xs : List Value} (h : Sl P w v n xs) (hPQ : ∀ g, P g → g < w.heap.size → Q g) : Sl Q w v n xs := by
  refine ⟨h.1, ?_⟩
  rcases h.2 with h0 | ⟨g, cap, cur, hv, hp, hg, rest⟩
  · exact .inl h0
  · exact .inr ⟨g, cap, cur, hv, hPQ g hp (Array.getElem?_eq_some_iff.1 hg).1, hg, rest⟩
theorem Sl.kept {P X : Nat → Prop} {w w' : World} {v : Value} {n : Nat} {xs : List Value} (h : Sl P w v n xs) (k : Kp X w w') (hX : ∀ g, P g → ¬ X g) : Sl P w' v n xs := by
  refine ⟨h.1, ?_⟩
  rcases h.2 with h0 | ⟨g, cap, cur, hv, hp, hg, rest⟩
  · exact .inl h0
  · exact .inr ⟨g, cap, cur, hv, hp, k.heap (hX g hp) hg, rest⟩
theorem FoC.mono {P Q : Nat → Prop} {w : World} (hPQ : ∀ g, P g → g < w.heap.size → Q g) : ∀ {F : Fo} {xs : List Value}, FoC P w F xs → FoC Q w F xs
  | .nil, _, h => h
  | .cons .., _, ⟨hl, kv, cs, ys, hx, hs, hk, hr⟩ => ⟨hl, kv, cs, ys, hx, hs.mono hPQ, FoC.mono hPQ hk, FoC.mono hPQ hr⟩
theorem FoC.kept {P X : Nat → Prop} {w w' : World} (k : Kp X w w') (hX : ∀ g, P g → ¬ X g) : ∀ {F : Fo} {xs : List Value}, FoC P w F xs → FoC P w' F xs
  | .nil, _, h => h
  | .cons .., _, ⟨hl, kv, cs, ys, hx, hs, hk, hr⟩ => ⟨hl, kv, cs, ys, hx, hs.kept k hX, FoC.kept k hX hk, FoC.kept k hX hr⟩
theorem FoC.length {P : Nat → Prop} {w : World} : ∀ {F : Fo} {xs : List Value}, FoC P w F xs → xs.length = F.len * 132
  | .nil, _, h => by rw [h]; rfl
  | .cons k set kids l m rest, _, ⟨hl, kv, cs, ys, hx, _, _, hr⟩ => by
    rw [hx, List.length_append, hr.length, Array.length_toList, reC_size (by simpa using hl), Fo.len]
    omega
theorem FoC.app {P : Nat → Prop} {w : World} : ∀ {A B : Fo} {xs ys : List Value}, FoC P w A xs → FoC P w B ys → FoC P w (A.app B) (xs ++ ys)
  | .nil, B, xs, ys, ha, hb => by rw [ha]; exact hb
  | .cons k set kids l m rest, B, _, ys, ⟨hl, kv, cs, zs, hx, hs, hk, hr⟩, hb =>
    ⟨hl, kv, cs, zs ++ ys, by rw [hx, List.append_assoc], hs, hk, hr.app hb⟩
theorem Nd.foC {P : Nat → Prop} {w : World} {k : Nat} {set : List Bool} {kids : Fo} {l m : Int} {c : Array Value} (h : Nd P w k set kids l m c) : FoC P w (.cons k set kids l m .nil) c.toList := by
  obtain ⟨hl, kv, cs, rfl, hs, hk⟩ := h
  exact ⟨hl, kv, cs, [], by simp, hs, hk, rfl⟩
theorem Nd.mono {P Q : Nat → Prop} {w : World} {k : Nat} {set : List Bool} {kids : Fo} {l m : Int} {c : Array Value} (h : Nd P w k set kids l m c) (hPQ : ∀ g, P g → g < w.heap.size → Q g) : Nd Q w k set kids l m c := by
  obtain ⟨hl, kv, cs, hc, hs, hk⟩ := h
  exact ⟨hl, kv, cs, hc, hs.mono hPQ, hk.mono hPQ⟩
theorem Nd.kept {P X : Nat → Prop} {w w' : World} {k : Nat} {set : List Bool} {kids : Fo} {l m : Int} {c : Array Value} (h : Nd P w k set kids l m c) (kp : Kp X w w') (hX : ∀ g, P g → ¬ X g) : Nd P w' k set kids l m c := by
  obtain ⟨hl, kv, cs, hc, hs, hk⟩ := h
  exact ⟨hl, kv, cs, hc, hs.kept kp hX, hk.kept kp hX⟩
theorem Nd.one {P : Nat → Prop} {w : World} {k : Nat} {set : List Bool} {l m : Int} (hl : set.length = 128) : Nd P w k set .nil l m (reC k (set.map .bool) (.slice none 0 0) l m) :=
  ⟨hl, _, [], rfl, ⟨rfl, .inl ⟨rfl, rfl⟩⟩, rfl⟩
theorem Nd.size {P : Nat → Prop} {w : World} {k : Nat} {set : List Bool} {kids : Fo} {l m : Int} {c : Array Value} (h : Nd P w k set kids l m c) : c.size = 132 := by
  obtain ⟨hl, kv, cs, rfl, _⟩ := h
  exact reC_size (by simpa using hl)
theorem Sl.oneCell {P : Nat → Prop} {w : World} {v : Value} {n : Nat} {xs : List Value} (h : Sl P w v n xs) : v.oneCell' = true := by
  rcases h.2 with ⟨rfl, _⟩ | ⟨g, cap, cur, rfl, _⟩ <;> rfl
theorem Nd.oneC {P : Nat → Prop} {w : World} {k : Nat} {set : List Bool} {kids : Fo} {l m : Int} {c : Array Value} (h : Nd P w k set kids l m c) : oneC c.toList := by
  obtain ⟨hl, kv, cs, rfl, hs, _⟩ := h
  exact oneC_reC oneC_map hs.oneCell
/-- what a reading leaves: a node, the place; new memory but for the reader's own block and, it may be, the flags' -/
def RdPost (X : Nat → Prop) (rb : Nat) (s : ByteArray) (j : Nat) (k : Nat) (set : List Bool) (kids : Fo) (l m : Int) (w : World) (e : Ending) (w' : World) : Prop :=
  ∃ c, e = .returned (.agg c) ∧ Nd (fun g => w.heap.size ≤ g) w' k set kids l m c ∧ RS rb s j true w' ∧ Kp X w w'
theorem AtPost.rd {rb : Nat} {s : ByteArray} {j k : Nat} {set : List Bool} {w w' : World} {e : Ending} (h : AtPost rb s j k set w e w') (hl : set.length = 128) : RdPost (· = rb) rb s j k set .nil 0 0 w e w' :=
  ⟨_, h.1, Nd.one hl, h.2.1, h.2.2⟩
end Go.Proofs.YtonifkkdokaooaaFmt

/- A slice of one node, made of a node's value. -/
namespace Go.Proofs.YtonifkkdokaooaaFmt
open Go.RowKit
set_option linter.unusedVariables false

theorem fold_zip_list (l : List Value) : ∀ (a : Array Value) (p : List Value), a.size = p.length + l.length → a.toList.take p.length = p → (l.zipIdx p.length).foldl (fun cs x => cs.setIfInBounds x.2 x.1) a = (p ++ l).toArray := by
  induction l with
  | nil =>
    intro a p h1 h2
    have : a.toList.take p.length = a.toList := List.take_of_length_le (by simp at h1 ⊢; omega)
    rw [this] at h2
    simp [← h2]
  | cons v r ih =>
    intro a p h1 h2
    rw [List.zipIdx_cons, List.foldl_cons]
    have hl : (p ++ [v]).length = p.length + 1 := by simp
    have := ih (a.setIfInBounds p.length v) (p ++ [v]) (by simp at h1 ⊢; omega) (by
      rw [hl, Array.toList_setIfInBounds]
      apply List.ext_getElem?
      intro k
      have h3 : ∀ k, k < p.length → a.toList[k]? = p[k]? := fun k hk => by
        have := congrArg (fun l : List Value => l[k]?) h2
        simp only [List.getElem?_take] at this
        rw [if_pos hk] at this; exact this
      rw [List.getElem?_take, List.getElem?_set, List.getElem?_append]
      by_cases e : k < p.length
      · rw [if_pos (by omega), if_neg (by omega), if_pos e, h3 k e]
      · by_cases e2 : k = p.length
        · subst e2
          rw [if_pos (by omega), if_pos rfl, if_pos (by simp at h1 ⊢; omega), if_neg e]
          simp
        · rw [if_neg (by omega), if_neg e, List.getElem?_eq_none (by simp; omega)])
    rw [hl] at this
    rw [this]; simp
set_option maxRecDepth 100000 in
/-- the node of zeros -/
theorem zlit : Value.agg (List.append (List.append (Value.int IntKind.i64 0 :: Value.bool false :: Value.bool false :: Value.bool false :: Value.bool false :: Value.bool false :: Value.bool false :: Value.bool false :: Value.bool false :: Value.bool false :: Value.bool false :: Value.bool false :: Value.bool false :: Value.bool false :: Value.bool false :: Value.bool false :: Value.bool false :: Value.bool false :: Value.bool false :: Value.bool false :: Value.bool false :: Value.bool false :: Value.bool false :: Value.bool false :: Value.bool false :: Value.bool false :: Value.bool false :: Value.bool false :: Value.bool false :: Value.bool false :: Value.bool false :: Value.bool false :: Value.bool false :: []) (Value.bool false :: Value.bool false :: Value.bool false :: Value.bool false :: Value.bool false :: Value.bool false :: Value.bool false :: Value.bool false :: Value.bool false :: Value.bool false :: Value.bool false :: Value.bool false :: Value.bool false :: Value.bool false :: Value.bool false :: Value.bool false :: Value.bool false :: Value.bool false :: Value.bool false :: Value.bool false :: Value.bool false :: Value.bool false :: Value.bool false :: Value.bool false :: Value.bool false :: Value.bool false :: Value.bool false :: Value.bool false :: Value.bool false :: Value.bool false :: Value.bool false :: Value.bool false :: Value.bool false :: [])) (List.append (Value.bool false :: Value.bool false :: Value.bool false :: Value.bool false :: Value.bool false :: Value.bool false :: Value.bool false :: Value.bool false :: Value.bool false :: Value.bool false :: Value.bool false :: Value.bool false :: Value.bool false :: Value.bool false :: Value.bool false :: Value.bool false :: Value.bool false :: Value.bool false :: Value.bool false :: Value.bool false :: Value.bool false :: Value.bool false :: Value.bool false :: Value.bool false :: Value.bool false :: Value.bool false :: Value.bool false :: Value.bool false :: Value.bool false :: Value.bool false :: Value.bool false :: Value.bool false :: Value.bool false :: []) (Value.bool false :: Value.bool false :: Value.bool false :: Value.bool false :: Value.bool false :: Value.bool false :: Value.bool false :: Value.bool false :: Value.bool false :: Value.bool false :: Value.bool false :: Value.bool false :: Value.bool false :: Value.bool false :: Value.bool false :: Value.bool false :: Value.bool false :: Value.bool false :: Value.bool false :: Value.bool false :: Value.bool false :: Value.bool false :: Value.bool false :: Value.bool false :: Value.bool false :: Value.bool false :: Value.bool false :: Value.bool false :: Value.bool false :: Value.bool false :: Value.slice none 0 0 :: Value.int IntKind.i64 0 :: Value.int IntKind.i64 0 :: []))).toArray = Value.agg reZ := by kernel_rfl
theorem infoRe2 : ∃ ie, Tryf.prog.info? tRe = some ie ∧ ie.zero = some (.agg reZ) ∧ ie.size = 132 := by
  have h := infoRe
  cases hq : Tryf.prog.info? tRe with
  | none => simp [hq] at h
  | some ie =>
    simp only [hq, Option.map_some, Option.some.injEq, Prod.mk.injEq] at h
    exact ⟨ie, rfl, h.1, h.2⟩
theorem fill_one (c old : Array Value) (hc : c.size = 132) (ho : old.size = 132) : Instr.fill (fun i => some (i * 132, 132)) old [(0, .agg c)] = some c := by
  have h1 := fold_zip_list c.toList old [] (by simp [ho, hc]) rfl
  have e : c.zipIdx.foldl (fun cs (x : Value × Nat) => cs.setIfInBounds (0 * 132 + x.2) x.1) old = c := by
    simp only [Nat.zero_mul, Nat.zero_add]
    rw [← Array.foldl_toList, Array.toList_zipIdx]
    simpa using h1
  have hb : (decide (c.size ≠ 132) || decide (0 * 132 + c.size > old.size)) = false := by simp; omega
  show (if (decide (c.size ≠ 132) || decide (0 * 132 + c.size > old.size)) = true then none else some (c.zipIdx.foldl (fun cs (x : Value × Nat) => cs.setIfInBounds (0 * 132 + x.2) x.1) old)) = some c
  rw [hb, e]
  rfl
theorem run_bs (w : World) (c : Array Value) (hc : c.size = 132) : (Instr.buildSlice 27 1 #[(0, .agg c)]).run Tryf.prog w = .ok (.slice (some ⟨w.heap.size, 0, none⟩) 1 1) (w.alloc (.cells c tRe)) := by
  obtain ⟨ie, h1, h2, h3⟩ := infoRe2
  refine run_buildSlice w _ tRe 1 _ c ie (.agg reZ) Tryf.underlying27 h1 h2 (by rw [h3]; omega) (by rw [h3]; omega) ?_
  rw [h3]
  exact fill_one c _ hc (by simp)
theorem wp_bsZ (d : Tmp) (ty : TypeId) (pos : String) (aft : Array Edge) (g : Option (Nat × Bool)) (a : Act) (w : World) (K : Act → World → Prop) (Q : Exit → Act → World → Prop) :
    Oper.wp Tryf.prog ⟨some d, .buildSlice 27 1 #[(0, .const (.agg reZ))], ty, pos, aft, g⟩ a w K Q = K (a.put (some d) (.slice (some ⟨w.heap.size, 0, none⟩) 1 1)) (w.alloc (.cells reZ tRe)) := by
  unfold Oper.wp execOp
  have e : Array.map (fun x : Nat × Operand => (x.fst, a.eval x.snd)) #[(0, Operand.const (Value.agg reZ))] = #[(0, .agg reZ)] := by simp [Act.eval]
  simp only [Sem.run_bind, e, run_bs w reZ rfl, Result.andThen_ok, Sem.run_pure, Oper.upon_value]
theorem wp_bs (d : Tmp) (ty : TypeId) (pos : String) (aft : Array Edge) (g : Option (Nat × Bool)) (a : Act) (w : World) (K : Act → World → Prop) (Q : Exit → Act → World → Prop) (x : Operand) (c : Array Value) (hx : a.eval x = .agg c) (hc : c.size = 132)
    (h : K (a.put (some d) (.slice (some ⟨w.heap.size, 0, none⟩) 1 1)) (w.alloc (.cells c tRe))) :
    Oper.wp Tryf.prog ⟨some d, .buildSlice 27 1 #[(0, x)], ty, pos, aft, g⟩ a w K Q := by
  unfold Oper.wp execOp
  have e : Array.map (fun x : Nat × Operand => (x.fst, a.eval x.snd)) #[(0, x)] = #[(0, .agg c)] := by simp [hx]
  simp only [Sem.run_bind, e, run_bs w c hc, Result.andThen_ok, Sem.run_pure, Oper.upon_value]
  exact h
end Go.Proofs.YtonifkkdokaooaaFmt

/- A node laid into the midst of a row. -/
namespace Go.Proofs.YtonifkkdokaooaaFmt
open Go.RowKit
set_option linter.unusedVariables false

/-- cells with others from a place on -/
def splice (cur : Array Value) (o : Nat) (cs : List Value) : Array Value := (cur.toList.take o ++ (cs ++ cur.toList.drop (o + cs.length))).toArray
theorem splice_nil (cur : Array Value) (o : Nat) : splice cur o [] = cur := by simp [splice]
theorem splice_cons (cur : Array Value) (o : Nat) (v : Value) (r : List Value) (h : o < cur.size) : splice (cur.setIfInBounds o v) (o + 1) r = splice cur o (v :: r) := by
  unfold splice
  have hA : (cur.toList.take o).length = o := by simp; omega
  have e : (cur.setIfInBounds o v).toList = cur.toList.take o ++ v :: cur.toList.drop (o + 1) := by
    rw [Array.toList_setIfInBounds, List.set_eq_take_append_cons_drop, if_pos (by simpa using h)]
  rw [e]
  have e1 : List.take (o + 1) (cur.toList.take o ++ v :: cur.toList.drop (o + 1)) = cur.toList.take o ++ [v] := by
    rw [List.take_append, hA, List.take_of_length_le (by omega), show o + 1 - o = 1 from by omega]; rfl
  have e2 : List.drop (o + 1 + r.length) (cur.toList.take o ++ v :: cur.toList.drop (o + 1)) = cur.toList.drop (o + (v :: r).length) := by
    rw [List.drop_append, hA, List.drop_of_length_le (by omega), show o + 1 + r.length - o = r.length + 1 from by omega, List.drop_succ_cons, List.drop_drop, List.nil_append]
    congr 1; simp; omega
  rw [e1, e2]
  simp
theorem splice_size (cur : Array Value) (o : Nat) (cs : List Value) (h : o + cs.length ≤ cur.size) : (splice cur o cs).size = cur.size := by
  simp [splice]; omega
theorem storeMid_from (g o : Nat) (t : TypeId) : ∀ (vs : List Value) (i : Nat) (cur : Array Value) (w : World), w.heap[g]? = some (.cells cur t (0, 0)) → o + i + vs.length ≤ cur.size → oneC vs →
    (storeCells ⟨g, o, none⟩ vs i).run Tryf.prog w = .ok () (w.setRow g (splice cur (o + i) vs))
  | [], i, cur, w, hg, _, _ => by
    have := run_storeCells_from (P := Tryf.prog) g t [] cur.size cur w hg (by simp) (by intro v hv; cases hv)
    simp only [storeCells] at this ⊢
    rw [this, splice_nil]
    congr 2
    rw [List.append_nil, List.take_of_length_le (by simp)]
  | v :: rest, i, cur, w, hg, hl, h1 => by
    have hi : o + i < cur.size := by simp at hl; omega
    have hadd : (⟨g, o, none⟩ : Addr).add i = ⟨g, o + i, none⟩ := by unfold Addr.add; split <;> simp_all
    have hcell : w.cell? ⟨g, o + i, none⟩ = some cur[o + i] := by simp [World.cell?, hg, hi]
    have hfro : w.frozen? ⟨g, o + i, none⟩ = false := by simp [World.frozen?, hg]
    have hst : (store ((⟨g, o, none⟩ : Addr).add i) v).run Tryf.prog w = .ok () (w.setRow g (cur.setIfInBounds (o + i) v)) := by
      rw [hadd, run_store Tryf.prog w _ v _ (h1 v (by simp)), hcell]
      simp [hfro, setCell_eq_setRow w g (o + i) cur t (0, 0) v hg]
    have ih := storeMid_from g o t rest (i + 1) (cur.setIfInBounds (o + i) v) (w.setRow g (cur.setIfInBounds (o + i) v)) (setRow_heap w g cur _ t _ hg) (by simp at hl ⊢; omega) (fun x hx => h1 x (by simp [hx]))
    simp only [storeCells, Sem.run_bind, hst, Result.andThen_ok, ih, setRow_setRow]
    rw [← splice_cons cur (o + i) v rest hi]
    rfl
theorem storeMid (w : World) (g o : Nat) (cur : Array Value) (t : TypeId) (vs : List Value) (hg : w.heap[g]? = some (.cells cur t (0, 0))) (hl : o + vs.length ≤ cur.size) (h1 : oneC vs) :
    (storeCells ⟨g, o, none⟩ vs).run Tryf.prog w = .ok () (w.setRow g (splice cur o vs)) := storeMid_from g o t vs 0 cur w hg hl h1
/-- behind an append of a node of zeros the node itself is laid into its place -/
theorem own_splice {w : World} {B g cap n : Nat} {ks zs vs : List Value} {e : TypeId} (h : w.ownsRow B e 132 (.slice (some ⟨g, 0, none⟩) (n + 1) cap) (n + 1) (ks ++ zs)) (hk : ks.length = n * 132) (hv : vs.length = 132) :
    ∃ cur, w.heap[g]? = some (.cells cur e (0, 0)) ∧ n * 132 + 132 ≤ cur.size ∧ (w.setRow g (splice cur (n * 132) vs)).ownsRow B e 132 (.slice (some ⟨g, 0, none⟩) (n + 1) cap) (n + 1) (ks ++ vs) := by
  have hlen := h.1
  rcases h.2 with ⟨h0, _⟩ | ⟨g', cap', cur, hvv, hb, hg, hc1, hc2, hsz, ht⟩
  · cases h0
  · cases hvv
    have hs : n * 132 + 132 ≤ cur.size := by rw [hsz]; have := Nat.mul_le_mul_right 132 hc1; omega
    have hks : cur.toList.take (n * 132) = ks := by
      have := congrArg (List.take (n * 132)) ht
      rw [List.take_take, Nat.min_eq_left (by omega), List.take_append_of_le_length (by omega), List.take_of_length_le (by omega : ks.length ≤ n * 132)] at this
      exact this
    refine ⟨cur, hg, hs, by simp [hk, hv]; omega, .inr ⟨g, cap, _, rfl, hb, setRow_heap _ _ _ _ _ _ hg, hc1, hc2, by rw [splice_size _ _ _ (by omega), hsz], ?_⟩⟩
    unfold splice
    simp only []
    rw [hks, ← List.append_assoc, List.take_append_of_le_length (by simp [hk, hv]; omega), List.take_of_length_le (by simp [hk, hv]; omega)]
end Go.Proofs.YtonifkkdokaooaaFmt
