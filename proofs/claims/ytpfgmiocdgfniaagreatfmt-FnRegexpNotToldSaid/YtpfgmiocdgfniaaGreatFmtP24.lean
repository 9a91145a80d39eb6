/- Joined by pack.py: WalkA, RdD, RdE, RdF, RdG. -/
import Derived.Test.YtpfgmiocdgfniaaGreatFmtChecked
import Derived.Test.YtpfgmiocdgfniaaGreatFmtP01
import Derived.WalkKit
import Derived.ProofKit
import Derived.WalkLawsBesides
import Derived.WalkSpells
import Derived.Outline
import Derived.Lib.Hide
import Derived.Test.YtpfgmiocdgfniaaGreatFmtP23
set_option linter.unusedVariables false
set_option maxHeartbeats 8000000
set_option maxRecDepth 1000000
namespace Go.Proofs.YtpfgmiocdgfniaaGreatFmt
open Go.ChangeShapes Go.WideShapes Go.ChangeAt Go.RowKit
theorem ret_bool {a b : Bool} (h : a = b) : Ending.returned (.bool a) = .returned (.bool b) := by rw [h]
theorem letter_any (n : Int) (w : World) : Calls Tryz.prog 37 #[.int .u8 n] w fun e w' => e = .returned (.bool (Pat.letterI n)) ∧ w = w' := by
  go_enter Tryz.func37, Tryz.ntmps37
  go_wp2
  all_goals go_ret
  all_goals exact ⟨ret_bool (by rw [Bool.eq_iff_iff]; simp [Pat.letterI]; omega), rfl⟩
end Go.Proofs.YtpfgmiocdgfniaaGreatFmt

namespace Go.Proofs.YtpfgmiocdgfniaaGreatFmt
open Go.RowKit
theorem dotc_any (b x : Nat) (dot : Bool) (w : World) (h : w.cell? ⟨b, 0, none⟩ = some (.bool dot)) : Calls Tryz.prog 57 #[.int .u8 x, .pointer (some ⟨b, 0, none⟩)] w fun e w' => e = .returned (.bool (dot || x != 10)) ∧ w = w' := by
  have hx : ((x : Int) != 10) = (x != 10) := by
    rw [Bool.eq_iff_iff]; simp; omega
  have H := Lib.hid hx
  clear hx
  cases dot
  · go_enter Tryz.func57, Tryz.ntmps57
    go_wp2
    go_ret
    exact ⟨by rw [← H.out]; rfl, rfl⟩
  · go_enter Tryz.func57, Tryz.ntmps57
    go_wp2
    go_ret
    exact ⟨rfl, rfl⟩
theorem ne_u8 {c n : Nat} (h : c ≠ n) : (((c : Nat) : Int) == (n : Int)) = false := by
  rw [beq_eq_false_iff_ne]; omega
theorem ltr_no {c : Nat} (h : Re.ltr c = false) : (c < 48 ∨ 57 < c) ∧ (c < 97 ∨ 122 < c) ∧ (c < 65 ∨ 90 < c) := by
  simp [Re.ltr] at h; omega
theorem named_no (c : Nat) (w : World) (h : Re.ltr c = false) : Calls Tryz.prog 58 #[.int .u8 c] w fun e w' => e = .returned (.tuple #[.nilFunc, .bool false, .bool false]) ∧ w = w' := by
  have hl := ltr_no h
  have h1 := ne_u8 (c := c) (n := 100) (by omega)
  have h2 := ne_u8 (c := c) (n := 68) (by omega)
  have h3 := ne_u8 (c := c) (n := 119) (by omega)
  have h4 := ne_u8 (c := c) (n := 87) (by omega)
  have h5 := ne_u8 (c := c) (n := 115) (by omega)
  have h6 := ne_u8 (c := c) (n := 83) (by omega)
  simp only [Int.cast_ofNat_Int] at h1 h2 h3 h4 h5 h6
  clear hl h
  go_enter Tryz.func58, Tryz.ntmps58
  go_wp2
  go_ret3
  exact ⟨rfl, rfl⟩
theorem escaped_any (rb : Nat) (s : ByteArray) (i : Nat) (ok : Bool) (c : Nat) (r : List UInt8) (w : World) (h : RS rb s i ok w) (hs : s.size ≤ 4611686018427387904) (hr : Rm s i (UInt8.ofNat c :: r)) (hc : c < 128) (hl : Re.ltr c = false) :
    Calls Tryz.prog 59 #[.pointer (some ⟨rb, 0, none⟩)] w fun e w' => e = .returned (.tuple #[.int .u8 c, .bool true]) ∧ RS rb s (i + 1) ok w' ∧ Kp (· = rb) w w' := by
  obtain ⟨c0, c1, c2, f1, f2, hlt⟩ := h.cells
  obtain ⟨hi, hat⟩ := hr.at
  have hn := ltr_no hl
  have h1 := ne_u8 (c := c) (n := 97) (by omega)
  have h2 := ne_u8 (c := c) (n := 116) (by omega)
  have h3 := ne_u8 (c := c) (n := 110) (by omega)
  have h4 := ne_u8 (c := c) (n := 118) (by omega)
  have h5 := ne_u8 (c := c) (n := 102) (by omega)
  have h6 := ne_u8 (c := c) (n := 114) (by omega)
  have h7 := ne_u8 (c := c) (n := 120) (by omega)
  simp only [Int.cast_ofNat_Int] at h1 h2 h3 h4 h5 h6 h7
  have hsi : (((s[i]'hi).toNat : Nat) : Int) = (c : Int) := by rw [hat]; simp; omega
  have hle : decide (s.size ≤ i) = false := by simp; omega
  have hcl : decide ((c : Int) < 128) = true := by simp; omega
  have hlet : Pat.letterI (c : Int) = false := by
    simp [Pat.letterI]; omega
  have HL : Hid (∀ w, Calls Tryz.prog 37 #[.int .u8 c] w fun e w' => e = .returned (.bool false) ∧ w = w') := Lib.hid fun w => by rw [← hlet]; exact letter_any c w
  have hw : IntKind.i64.wrap ((i : Int) + 1) = (i : Int) + 1 := IntWalk.i64_in _ (by omega)
  have H := Lib.hid h
  clear h hr hat hlet hn hl
  go_enter Tryz.func59, Tryz.ntmps59
  go_wp2
  go_quiet (fail)
  rename Nat => n1
  go_wp2
  go_quiet (fail)
  rename Nat => n2
  have HD : Hid (RS rb s i ok (w.drewN (n1 + n2))) := Lib.hid (H.out.drew _)
  have KD : Hid (Kp (· = rb) w (w.drewN (n1 + n2))) := Lib.hid (Kp.drewN _ (Kp.refl _ w))
  go_wp2_with fail
  refine (HL.out _).mono ?_
  rintro e w1 ⟨rfl, rfl⟩
  go_wp2_with fail
  go_ret2
  refine ⟨rfl, ?_, ?_⟩
  · exact RS.set (j := i + 1) HD.out
  · exact KD.out.setCell (p := ⟨rb, 1, none⟩) (.inl rfl) _
end Go.Proofs.YtpfgmiocdgfniaaGreatFmt

namespace Go.Proofs.YtpfgmiocdgfniaaGreatFmt
open Go.RowKit
def FS (fb : Nat) (fold dot : Bool) (w : World) : Prop := w.heap[fb]? = some (.cells #[.bool fold, .bool dot] tFl (0, 0))
theorem FS.cells {fb : Nat} {fold dot : Bool} {w : World} (h : FS fb fold dot w) : w.cell? ⟨fb, 0, none⟩ = some (.bool fold) ∧ w.cell? ⟨fb, 1, none⟩ = some (.bool dot) ∧ fb < w.heap.size :=
  ⟨by rw [Lib.cell_of_heap h]; rfl, by rw [Lib.cell_of_heap h]; rfl, (Array.getElem?_eq_some_iff.1 h).1⟩
theorem blk_ne {w : World} {x y : Nat} {c d : Array Value} {t u : TypeId} {f g : Nat × Nat} (hx : w.heap[x]? = some (.cells c t f)) (hy : w.heap[y]? = some (.cells d u g)) (h : t ≠ u) : x ≠ y := by
  rintro rfl
  rw [hx] at hy
  simp only [Option.some.injEq, Obj.cells.injEq] at hy
  exact h hy.2.1
def AtPost (rb : Nat) (s : ByteArray) (j : Nat) (k : Nat) (set : List Bool) (w : World) (e : Ending) (w' : World) : Prop :=
  e = .returned (.agg (reC k (set.map .bool) (.slice none 0 0) 0 0)) ∧ RS rb s j true w' ∧ Kp (· = rb) w w'
theorem pre_no {c d : UInt8} {l r : List UInt8} (h : d ≠ c) : List.isPrefixOf (d :: l) (c :: r) = false := by
  simp [List.isPrefixOf, h]
theorem of_ne {c n : Nat} (hc : c < 128) (hn : n < 128) (h : c ≠ n) : UInt8.ofNat n ≠ UInt8.ofNat c := by
  intro e
  have := congrArg UInt8.toNat e
  simp at this
  omega
def Mid (rb : Nat) (s : ByteArray) (j : Nat) (w V : World) : Prop := RS rb s j true V ∧ Kp (· = rb) w V ∧ V.heap[w.heap.size]? = some (.cells reZ tRe (0, 0))
theorem Mid.below {rb : Nat} {s : ByteArray} {j : Nat} {w V w1 : World} (h : Mid rb s j w V) (hb : Below V.heap.size V w1) : Mid rb s j w w1 :=
  ⟨h.1.kept (X := fun _ => False) (.of_below hb) id, h.2.1.trans (.of_below hb), (Kp.of_below (X := fun _ => False) hb).heap id h.2.2⟩
theorem Mid.start {rb : Nat} {s : ByteArray} {i : Nat} {w : World} (h : RS rb s i true w) : Mid rb s i w (w.alloc (.cells reZ tRe)) :=
  ⟨h.kept ((Kp.refl (fun _ => False) w).alloc _) id, (Kp.refl _ w).alloc _, heap_alloc_new w _⟩
theorem Mid.drew {rb : Nat} {s : ByteArray} {i : Nat} {w V : World} (n : Nat) (h : Mid rb s i w V) : Mid rb s i w (V.drewN n) := ⟨h.1.drew n, h.2.1.drewN n, h.2.2⟩
theorem Mid.set {rb : Nat} {s : ByteArray} {i j : Nat} {w V : World} (h : Mid rb s i w V) (hlt : rb < w.heap.size) : Mid rb s j w (V.setCell ⟨rb, 1, none⟩ (.int .i64 j)) :=
  ⟨h.1.set, h.2.1.setCell (p := ⟨rb, 1, none⟩) (.inl rfl) _, by rw [heap_setCell_other _ _ _ _ (by show w.heap.size ≠ rb; omega)]; exact h.2.2⟩
theorem Mid.call {rb : Nat} {s : ByteArray} {i j : Nat} {w V w1 : World} (h : Mid rb s i w V) (hlt : rb < w.heap.size) (hr : RS rb s j true w1) (k : Kp (· = rb) V w1) : Mid rb s j w w1 :=
  ⟨hr, h.2.1.trans k, k.heap (by show ¬ w.heap.size = rb; omega) h.2.2⟩
theorem at_done {rb : Nat} {s : ByteArray} {j k : Nat} {set : List Bool} {w V : World} {tmps : Array Value} (h : Mid rb s j w V) (hl : set.length = 128) (hp : tmps.getD 4 undef = .pointer (some ⟨w.heap.size, 0, none⟩)) :
    bodyPost Tryz.prog Tryz.f34 (AtPost rb s j k set w) .ret ⟨tmps, []⟩ (V.setRow w.heap.size (reC k (set.map .bool) (.slice none 0 0) 0 0)) := by
  have hb : rb < w.heap.size ∨ w.heap.size ≤ rb := by omega
  refine bodyPost_ret (v := .agg (reC k (set.map .bool) (.slice none 0 0) 0 0)) (resultRe Tryz.results34 _ _ w.heap.size _ hp (setRow_heap _ _ reZ _ tRe (0, 0) h.2.2) (reC_size (by simpa using hl))) rfl ⟨rfl, ?_, h.2.1.setRow (.inr (Nat.le_refl _)) _⟩
  have hne : rb ≠ w.heap.size := fun e => by
    have h1 := h.1
    rw [e] at h1
    have := h1.symm.trans h.2.2
    simp only [Option.some.injEq, Obj.cells.injEq] at this
    exact absurd this.2.1 (by decide)
  unfold RS
  rw [setRow_other _ _ _ _ hne]
  exact h.1
theorem atom_lit (rb fb : Nat) (s : ByteArray) (i : Nat) (c : Nat) (r : List UInt8) (fold dot : Bool) (w : World) (h : RS rb s i true w) (hf : FS fb fold dot w) (hs : s.size ≤ 4611686018427387904) (hr : Rm s i (UInt8.ofNat c :: r)) (hc : Re.litOk c = true) :
    Calls Tryz.prog 34 #[.pointer (some ⟨rb, 0, none⟩), .pointer (some ⟨fb, 0, none⟩)] w (AtPost rb s (i + 1) 1 (Re.setL (fun x => x == c) fold false) w) := by
  have hz := zeroRe
  simp only [Re.litOk, Bool.and_eq_true, decide_eq_true_eq, Bool.not_eq_true', Bool.or_eq_false_iff, beq_eq_false_iff_ne] at hc
  obtain ⟨hc1, hc2⟩ := hc
  obtain ⟨hi, hat⟩ := hr.at
  obtain ⟨f0, f1, hfl⟩ := hf.cells
  have P40 := Lib.hid (pre_no (l := []) (r := r) (of_ne (n := 40) hc1 (by omega) (by omega)))
  have P91 := Lib.hid (pre_no (l := []) (r := r) (of_ne (n := 91) hc1 (by omega) (by omega)))
  have P46 := Lib.hid (pre_no (l := []) (r := r) (of_ne (n := 46) hc1 (by omega) (by omega)))
  have P94 := Lib.hid (pre_no (l := []) (r := r) (of_ne (n := 94) hc1 (by omega) (by omega)))
  have P36 := Lib.hid (pre_no (l := []) (r := r) (of_ne (n := 36) hc1 (by omega) (by omega)))
  have P92 := Lib.hid (pre_no (l := []) (r := r) (of_ne (n := 92) hc1 (by omega) (by omega)))
  have P92a := Lib.hid (pre_no (l := [65]) (r := r) (of_ne (n := 92) hc1 (by omega) (by omega)))
  have P92z := Lib.hid (pre_no (l := [122]) (r := r) (of_ne (n := 92) hc1 (by omega) (by omega)))
  have h42 := ne_u8 (c := c) (n := 42) (by omega)
  have h43 := ne_u8 (c := c) (n := 43) (by omega)
  have h63 := ne_u8 (c := c) (n := 63) (by omega)
  simp only [Int.cast_ofNat_Int] at h42 h43 h63
  have hsi : (((s[i]'hi).toNat : Nat) : Int) = (c : Int) := by rw [hat]; simp; omega
  have hc127 : decide ((c : Int) > 127) = false := by simp; omega
  have hw1 : IntKind.i64.wrap ((i : Int) + 1) = (i : Int) + 1 := IntWalk.i64_in _ (by omega)
  obtain ⟨c0, c1, c2, q1, q2, hlt⟩ := h.cells
  have hne : fb ≠ rb := blk_ne hf h (by decide)
  have hne2 : rb ≠ fb := fun e => hne e.symm
  have HV : Hid (∀ n, Mid rb s (i + 1) w (((w.alloc (.cells reZ tRe)).drewN n).setCell ⟨rb, 1, none⟩ (.int .i64 ((i : Int) + 1)))) := Lib.hid fun n => ((Mid.start h).drew n).set hlt
  have HS0 : Hid (RS rb s i true (w.alloc (.cells reZ tRe))) := Lib.hid (h.kept ((Kp.refl (fun _ => False) w).alloc _) id)
  have H := Lib.hid h
  have HR := Lib.hid hr
  have HF := Lib.hid hf
  have H2 := Lib.hid hc2
  clear h hr hf hc2 hat
  go_enter Tryz.func34, Tryz.ntmps34
  go_wp2_with (go_at_call 32; refine (skip_f rb s _ i true _ _ (by first | exact HS0.out | exact HS0.out.drew _) hs (by decide) HR.out (by first | exact P40.out | exact P91.out | exact P46.out | exact P94.out | exact P36.out | exact P92.out | exact P92a.out | exact P92z.out)).mono ?_; rintro e w' ⟨rfl, m, rfl⟩)
  go_quiet (fail)
  go_wp2_with fail
  refine (one_any c fold dot _).mono ?_
  rintro e w1 ⟨rfl, hb⟩
  have hk := (HV.out _).below hb
  have HK := Lib.hid hk
  clear hb hk
  go_wp2_with fail
  rw [storeRe _ w.heap.size reZ _ HK.out.2.2 rfl rfl (oneC_reC oneC_map rfl)]
  go_wp2
  exact at_done HK.out (by simp [Re.setL]) rfl
end Go.Proofs.YtpfgmiocdgfniaaGreatFmt

namespace Go.Proofs.YtpfgmiocdgfniaaGreatFmt
open Go.RowKit
theorem FS.mid {rb fb : Nat} {s : ByteArray} {j : Nat} {fold dot : Bool} {w V : World} (h : FS fb fold dot w) (hne : fb ≠ rb) (m : Mid rb s j w V) : FS fb fold dot V := m.2.1.heap hne h
theorem pre_no2 {b c d : UInt8} {l r : List UInt8} (h : d ≠ c) : List.isPrefixOf (b :: d :: l) (b :: c :: r) = false := by
  simp [List.isPrefixOf, h]
theorem atom_esc (rb fb : Nat) (s : ByteArray) (i : Nat) (c : Nat) (r : List UInt8) (fold dot : Bool) (w : World) (h : RS rb s i true w) (hf : FS fb fold dot w) (hs : s.size ≤ 4611686018427387904) (hr : Rm s i (UInt8.ofNat 92 :: UInt8.ofNat c :: r)) (hc : c < 128) (hl : Re.ltr c = false) :
    Calls Tryz.prog 34 #[.pointer (some ⟨rb, 0, none⟩), .pointer (some ⟨fb, 0, none⟩)] w (AtPost rb s (i + 2) 1 (Re.setL (fun x => x == c) fold false) w) := by
  have hz := zeroRe
  have P40 := Lib.hid (pre_no (l := []) (r := UInt8.ofNat c :: r) (c := UInt8.ofNat 92) (d := UInt8.ofNat 40) (by decide))
  have P91 := Lib.hid (pre_no (l := []) (r := UInt8.ofNat c :: r) (c := UInt8.ofNat 92) (d := UInt8.ofNat 91) (by decide))
  have P46 := Lib.hid (pre_no (l := []) (r := UInt8.ofNat c :: r) (c := UInt8.ofNat 92) (d := UInt8.ofNat 46) (by decide))
  have P94 := Lib.hid (pre_no (l := []) (r := UInt8.ofNat c :: r) (c := UInt8.ofNat 92) (d := UInt8.ofNat 94) (by decide))
  have P36 := Lib.hid (pre_no (l := []) (r := UInt8.ofNat c :: r) (c := UInt8.ofNat 92) (d := UInt8.ofNat 36) (by decide))
  have hn := ltr_no hl
  have P65 := Lib.hid (pre_no2 (b := UInt8.ofNat 92) (l := []) (r := r) (of_ne (n := 65) hc (by omega) (by omega)))
  have P122 := Lib.hid (pre_no2 (b := UInt8.ofNat 92) (l := []) (r := r) (of_ne (n := 122) hc (by omega) (by omega)))
  have hsz := hr.size
  simp only [List.length_cons] at hsz
  obtain ⟨hi2, hat2⟩ := hr.tail.at
  have hsi : (((s[i + 1]'hi2).toNat : Nat) : Int) = (c : Int) := by rw [hat2]; simp; omega
  have hlt2 : decide (i + 1 < s.size) = true := by simp; omega
  have HT := Lib.hid hr.tail
  obtain ⟨hi, hat⟩ := hr.at
  obtain ⟨f0, f1, hfl⟩ := hf.cells
  obtain ⟨c0, c1, c2, q1, q2, hlt⟩ := h.cells
  have hne : fb ≠ rb := blk_ne hf h (by decide)
  have hne2 : rb ≠ fb := fun e => hne e.symm
  have HS0 : Hid (RS rb s i true (w.alloc (.cells reZ tRe))) := Lib.hid (h.kept ((Kp.refl (fun _ => False) w).alloc _) id)
  have HM0 : Hid (Mid rb s i w (w.alloc (.cells reZ tRe))) := Lib.hid (Mid.start h)
  have H := Lib.hid h
  have HR := Lib.hid hr
  have HF := Lib.hid hf
  have HL := Lib.hid hl
  clear h hr hf hat hat2 hn hl hsz
  go_enter Tryz.func34, Tryz.ntmps34
  go_wp2_with (go_at_call 32; refine (skip_f rb s _ i true _ _ (by first | exact HS0.out | exact HS0.out.drew _) hs (by decide) HR.out (by first | exact P40.out | exact P91.out | exact P46.out | exact P94.out | exact P36.out | exact P65.out | exact P122.out)).mono ?_; rintro e w' ⟨rfl, m, rfl⟩)
  refine (skip_t rb s ⟨#[92]⟩ i true _ _ (by first | exact HM0.out.1 | exact (HM0.out.drew _).1) hs HR.out).mono ?_
  rintro e w1 ⟨rfl, hr1, hk1⟩
  have M1 : Mid rb s (i + 1) w w1 := by first | exact HM0.out.call hlt hr1 hk1 | exact (HM0.out.drew _).call hlt hr1 hk1
  have HM := Lib.hid M1
  clear hr1 hk1
  have F1 := HF.out.mid hne M1
  obtain ⟨f0', f1', hfl'⟩ := F1.cells
  obtain ⟨c0', c1', c2', q1', q2', hlt'⟩ := M1.1.cells
  clear f0 f1 hfl c0 c1 c2 q1 q2 M1
  have hnm : ∀ w, Calls Tryz.prog 58 #[.int .u8 c] w fun e w' => e = .returned (.tuple #[.nilFunc, .bool false, .bool false]) ∧ w = w' := fun w => named_no c w HL.out
  have HN := Lib.hid hnm
  clear hnm
  go_wp2
  go_quiet (fail)
  go_wp2
  go_quiet ((go_at_call 58; exact (HN.out _).mono fun _ _ h => ⟨h.1, _, h.2.symm⟩))
  go_wp2_with fail
  refine (escaped_any rb s (i + 1) true c r _ (HM.out.1.drew _) hs HT.out hc HL.out).mono ?_
  rintro e w2 ⟨rfl, hr2, hk2⟩
  have M2 : Mid rb s (i + 2) w w2 := (HM.out.drew _).call hlt hr2 hk2
  have HM2 := Lib.hid M2
  have F2 := HF.out.mid hne M2
  obtain ⟨g0, g1, g2⟩ := F2.cells
  clear hr2 hk2 f0' f1' hfl' c0' c1' c2' q1' q2' M2 F2
  go_wp2_with fail
  refine (one_any c fold dot _).mono ?_
  rintro e w3 ⟨rfl, hb⟩
  have HK := Lib.hid (HM2.out.below hb)
  clear hb
  go_wp2_with fail
  rw [storeRe _ w.heap.size reZ _ HK.out.2.2 rfl rfl (oneC_reC oneC_map rfl)]
  go_wp2
  exact at_done HK.out (by simp [Re.setL]) rfl
theorem atom_dot (rb fb : Nat) (s : ByteArray) (i : Nat) (r : List UInt8) (fold dot : Bool) (w : World) (h : RS rb s i true w) (hf : FS fb fold dot w) (hs : s.size ≤ 4611686018427387904) (hr : Rm s i (UInt8.ofNat 46 :: r)) :
    Calls Tryz.prog 34 #[.pointer (some ⟨rb, 0, none⟩), .pointer (some ⟨fb, 0, none⟩)] w (AtPost rb s (i + 1) 1 (Re.setL (fun x => dot || x != 10) false false) w) := by
  have hz := zeroRe
  have P40 := Lib.hid (pre_no (l := []) (r := r) (c := UInt8.ofNat 46) (d := UInt8.ofNat 40) (by decide))
  have P91 := Lib.hid (pre_no (l := []) (r := r) (c := UInt8.ofNat 46) (d := UInt8.ofNat 91) (by decide))
  have e59 : ∀ args w, (callFunc 57 args).run Tryz.prog w = .ok (.enter 57 args) w := Go.Proofs.enters_of Tryz.func57 (by kernel_rfl) rfl
  have HE := Lib.hid e59
  clear e59
  obtain ⟨hi, hat⟩ := hr.at
  obtain ⟨f0, f1, hfl⟩ := hf.cells
  obtain ⟨c0, c1, c2, q1, q2, hlt⟩ := h.cells
  have hne : fb ≠ rb := blk_ne hf h (by decide)
  have hne2 : rb ≠ fb := fun e => hne e.symm
  have HS0 : Hid (RS rb s i true (w.alloc (.cells reZ tRe))) := Lib.hid (h.kept ((Kp.refl (fun _ => False) w).alloc _) id)
  have HM0 : Hid (Mid rb s i w (w.alloc (.cells reZ tRe))) := Lib.hid (Mid.start h)
  have H := Lib.hid h
  have HR := Lib.hid hr
  have HF := Lib.hid hf
  clear h hr hf hat
  go_enter Tryz.func34, Tryz.ntmps34
  go_wp2_with (go_at_call 32; refine (skip_f rb s _ i true _ _ (by first | exact HS0.out | exact HS0.out.drew _) hs (by decide) HR.out (by first | exact P40.out | exact P91.out)).mono ?_; rintro e w' ⟨rfl, m, rfl⟩)
  refine (skip_t rb s ⟨#[46]⟩ i true _ _ (by first | exact HM0.out.1 | exact (HM0.out.drew _).1) hs HR.out).mono ?_
  rintro e w1 ⟨rfl, hr1, hk1⟩
  have M1 : Mid rb s (i + 1) w w1 := by first | exact HM0.out.call hlt hr1 hk1 | exact (HM0.out.drew _).call hlt hr1 hk1
  have HM := Lib.hid M1
  clear hr1 hk1
  have F1 := HF.out.mid hne M1
  obtain ⟨f0', f1', hfl'⟩ := F1.cells
  obtain ⟨c0', c1', c2', q1', q2', hlt'⟩ := M1.1.cells
  clear f0 f1 hfl c0 c1 c2 q1 q2 M1
  go_wp2_with fail
  have hb0 : Below w1.heap.size w1 (w1.alloc (.cells #[.bool dot] 4)) := (Below.refl _ _).alloc (Nat.le_refl _) _
  have hcd : (w1.alloc (.cells #[.bool dot] 4)).cell? ⟨w1.heap.size, 0, none⟩ = some (.bool dot) := by rw [World.cell?_alloc_at _ _ _ _ rfl]; rfl
  refine (setOf_any 57 (.pointer (some ⟨w1.heap.size, 0, none⟩)) (fun x => dot || x != 10) false false false _ HE.out (fun x w' _ k => dotc_any w1.heap.size x dot w' (k.cell id hcd))).mono ?_
  rintro e w3 ⟨rfl, hb⟩
  have HK := Lib.hid ((HM.out.below hb0).below hb)
  clear hb hb0 hcd
  go_wp2_with fail
  rw [storeRe _ w.heap.size reZ _ HK.out.2.2 rfl rfl (oneC_reC oneC_map rfl)]
  go_wp2
  exact at_done HK.out (by simp [Re.setL]) rfl
theorem atom_beg (rb fb : Nat) (s : ByteArray) (i : Nat) (r : List UInt8) (fold dot : Bool) (w : World) (h : RS rb s i true w) (hf : FS fb fold dot w) (hs : s.size ≤ 4611686018427387904) (hr : Rm s i (UInt8.ofNat 94 :: r)) :
    Calls Tryz.prog 34 #[.pointer (some ⟨rb, 0, none⟩), .pointer (some ⟨fb, 0, none⟩)] w (AtPost rb s (i + 1) 5 (Re.no128) w) := by
  have hz := zeroRe
  have P40 := Lib.hid (pre_no (l := []) (r := r) (c := UInt8.ofNat 94) (d := UInt8.ofNat 40) (by decide))
  have P91 := Lib.hid (pre_no (l := []) (r := r) (c := UInt8.ofNat 94) (d := UInt8.ofNat 91) (by decide))
  have P46 := Lib.hid (pre_no (l := []) (r := r) (c := UInt8.ofNat 94) (d := UInt8.ofNat 46) (by decide))
  obtain ⟨hi, hat⟩ := hr.at
  obtain ⟨f0, f1, hfl⟩ := hf.cells
  obtain ⟨c0, c1, c2, q1, q2, hlt⟩ := h.cells
  have hne : fb ≠ rb := blk_ne hf h (by decide)
  have hne2 : rb ≠ fb := fun e => hne e.symm
  have HS0 : Hid (RS rb s i true (w.alloc (.cells reZ tRe))) := Lib.hid (h.kept ((Kp.refl (fun _ => False) w).alloc _) id)
  have HM0 : Hid (Mid rb s i w (w.alloc (.cells reZ tRe))) := Lib.hid (Mid.start h)
  have H := Lib.hid h
  have HR := Lib.hid hr
  have HF := Lib.hid hf
  clear h hr hf hat
  go_enter Tryz.func34, Tryz.ntmps34
  go_wp2_with (go_at_call 32; refine (skip_f rb s _ i true _ _ (by first | exact HS0.out | exact HS0.out.drew _) hs (by decide) HR.out (by first | exact P40.out | exact P91.out | exact P46.out)).mono ?_; rintro e w' ⟨rfl, m, rfl⟩)
  refine (skip_t rb s ⟨#[94]⟩ i true _ _ (by first | exact HM0.out.1 | exact (HM0.out.drew _).1) hs HR.out).mono ?_
  rintro e w1 ⟨rfl, hr1, hk1⟩
  have M1 : Mid rb s (i + 1) w w1 := by first | exact HM0.out.call hlt hr1 hk1 | exact (HM0.out.drew _).call hlt hr1 hk1
  have HM := Lib.hid M1
  clear hr1 hk1
  have F1 := HF.out.mid hne M1
  obtain ⟨f0', f1', hfl'⟩ := F1.cells
  obtain ⟨c0', c1', c2', q1', q2', hlt'⟩ := M1.1.cells
  clear f0 f1 hfl c0 c1 c2 q1 q2 M1
  go_wp2_with fail
  rw [storeRe _ w.heap.size reZ (reZ.toList.set 0 (.int .i64 5)) HM.out.2.2 rfl rfl (oneC_set2 5), reZ_set]
  go_wp2
  exact at_done (k := 5) (set := Re.no128) HM.out rfl rfl
theorem atom_fin (rb fb : Nat) (s : ByteArray) (i : Nat) (r : List UInt8) (fold dot : Bool) (w : World) (h : RS rb s i true w) (hf : FS fb fold dot w) (hs : s.size ≤ 4611686018427387904) (hr : Rm s i (UInt8.ofNat 36 :: r)) :
    Calls Tryz.prog 34 #[.pointer (some ⟨rb, 0, none⟩), .pointer (some ⟨fb, 0, none⟩)] w (AtPost rb s (i + 1) 6 (Re.no128) w) := by
  have hz := zeroRe
  have P40 := Lib.hid (pre_no (l := []) (r := r) (c := UInt8.ofNat 36) (d := UInt8.ofNat 40) (by decide))
  have P91 := Lib.hid (pre_no (l := []) (r := r) (c := UInt8.ofNat 36) (d := UInt8.ofNat 91) (by decide))
  have P46 := Lib.hid (pre_no (l := []) (r := r) (c := UInt8.ofNat 36) (d := UInt8.ofNat 46) (by decide))
  have P94 := Lib.hid (pre_no (l := []) (r := r) (c := UInt8.ofNat 36) (d := UInt8.ofNat 94) (by decide))
  have P65 := Lib.hid (pre_no (l := [65]) (r := r) (c := UInt8.ofNat 36) (d := UInt8.ofNat 92) (by decide))
  obtain ⟨hi, hat⟩ := hr.at
  obtain ⟨f0, f1, hfl⟩ := hf.cells
  obtain ⟨c0, c1, c2, q1, q2, hlt⟩ := h.cells
  have hne : fb ≠ rb := blk_ne hf h (by decide)
  have hne2 : rb ≠ fb := fun e => hne e.symm
  have HS0 : Hid (RS rb s i true (w.alloc (.cells reZ tRe))) := Lib.hid (h.kept ((Kp.refl (fun _ => False) w).alloc _) id)
  have HM0 : Hid (Mid rb s i w (w.alloc (.cells reZ tRe))) := Lib.hid (Mid.start h)
  have H := Lib.hid h
  have HR := Lib.hid hr
  have HF := Lib.hid hf
  clear h hr hf hat
  go_enter Tryz.func34, Tryz.ntmps34
  go_wp2_with (go_at_call 32; refine (skip_f rb s _ i true _ _ (by first | exact HS0.out | exact HS0.out.drew _) hs (by decide) HR.out (by first | exact P40.out | exact P91.out | exact P46.out | exact P94.out | exact P65.out)).mono ?_; rintro e w' ⟨rfl, m, rfl⟩)
  refine (skip_t rb s ⟨#[36]⟩ i true _ _ (by first | exact HM0.out.1 | exact (HM0.out.drew _).1) hs HR.out).mono ?_
  rintro e w1 ⟨rfl, hr1, hk1⟩
  have M1 : Mid rb s (i + 1) w w1 := by first | exact HM0.out.call hlt hr1 hk1 | exact (HM0.out.drew _).call hlt hr1 hk1
  have HM := Lib.hid M1
  clear hr1 hk1
  have F1 := HF.out.mid hne M1
  obtain ⟨f0', f1', hfl'⟩ := F1.cells
  obtain ⟨c0', c1', c2', q1', q2', hlt'⟩ := M1.1.cells
  clear f0 f1 hfl c0 c1 c2 q1 q2 M1
  go_wp2_with fail
  rw [storeRe _ w.heap.size reZ (reZ.toList.set 0 (.int .i64 6)) HM.out.2.2 rfl rfl (oneC_set2 6), reZ_set]
  go_wp2
  exact at_done (k := 6) (set := Re.no128) HM.out rfl rfl
end Go.Proofs.YtpfgmiocdgfniaaGreatFmt

namespace Go.Proofs.YtpfgmiocdgfniaaGreatFmt
open Go.RowKit
open Re (Fo)
def Sl (P : Nat → Prop) (w : World) (v : Value) (n : Nat) (xs : List Value) : Prop :=
  xs.length = n * 132 ∧ ((v = .slice none 0 0 ∧ n = 0) ∨
    ∃ g cap cur, v = .slice (some ⟨g, 0, none⟩) n cap ∧ P g ∧ w.heap[g]? = some (.cells cur tRe (0, 0)) ∧ n ≤ cap ∧ cap ≤ maxLen ∧ cur.size = cap * 132 ∧ cur.toList.take (n * 132) = xs)
def FoC (P : Nat → Prop) (w : World) : Fo → List Value → Prop
  | .nil, xs => xs = []
  | .cons k set kids l m rest, xs => set.length = 128 ∧ ∃ kv cs ys, xs = (reC k (set.map .bool) kv l m).toList ++ ys ∧ Sl P w kv kids.len cs ∧ FoC P w kids cs ∧ FoC P w rest ys
def Nd (P : Nat → Prop) (w : World) (k : Nat) (set : List Bool) (kids : Fo) (l m : Int) (c : Array Value) : Prop :=
  set.length = 128 ∧ ∃ kv cs, c = reC k (set.map .bool) kv l m ∧ Sl P w kv kids.len cs ∧ FoC P w kids cs
theorem Sl.mono {P Q : Nat → Prop} {w : World} {v : Value} {n : Nat} {xs : List Value} (h : Sl P w v n xs) (hPQ : ∀ g, P g → g < w.heap.size → Q g) : Sl Q w v n xs := by
  refine ⟨h.1, ?_⟩
  rcases h.2 with h0 | ⟨g, cap, cur, hv, hp, hg, rest⟩
  · exact .inl h0
  · exact .inr ⟨g, cap, cur, hv, hPQ g hp (Array.getElem?_eq_some_iff.1 hg).1, hg, rest⟩
theorem Sl.kept {P X : Nat → Prop} {w w' : World} {v : Value} {n : Nat} {xs : List Value} (h : Sl P w v n xs) (k : Kp X w w') (hX : ∀ g, P g → ¬ X g) : Sl P w' v n xs := by
  refine ⟨h.1, ?_⟩
  rcases h.2 with h0 | ⟨g, cap, cur, hv, hp, hg, rest⟩
  · exact .inl h0
  · exact .inr ⟨g, cap, cur, hv, hp, k.heap (hX g hp) hg, rest⟩
theorem FoC.mono {P Q : Nat → Prop} {w : World} (hPQ : ∀ g, P g → g < w.heap.size → Q g) : ∀ {F : Fo} {xs : List Value}, FoC P w F xs → FoC Q w F xs
  | .nil, _, h => h
  | .cons .., _, ⟨hl, kv, cs, ys, hx, hs, hk, hr⟩ => ⟨hl, kv, cs, ys, hx, hs.mono hPQ, FoC.mono hPQ hk, FoC.mono hPQ hr⟩
theorem FoC.kept {P X : Nat → Prop} {w w' : World} (k : Kp X w w') (hX : ∀ g, P g → ¬ X g) : ∀ {F : Fo} {xs : List Value}, FoC P w F xs → FoC P w' F xs
  | .nil, _, h => h
  | .cons .., _, ⟨hl, kv, cs, ys, hx, hs, hk, hr⟩ => ⟨hl, kv, cs, ys, hx, hs.kept k hX, FoC.kept k hX hk, FoC.kept k hX hr⟩
theorem FoC.length {P : Nat → Prop} {w : World} : ∀ {F : Fo} {xs : List Value}, FoC P w F xs → xs.length = F.len * 132
  | .nil, _, h => by rw [h]; rfl
  | .cons k set kids l m rest, _, ⟨hl, kv, cs, ys, hx, _, _, hr⟩ => by
    rw [hx, List.length_append, hr.length, Array.length_toList, reC_size (by simpa using hl), Fo.len]
    omega
theorem FoC.app {P : Nat → Prop} {w : World} : ∀ {A B : Fo} {xs ys : List Value}, FoC P w A xs → FoC P w B ys → FoC P w (A.app B) (xs ++ ys)
  | .nil, B, xs, ys, ha, hb => by rw [ha]; exact hb
  | .cons k set kids l m rest, B, _, ys, ⟨hl, kv, cs, zs, hx, hs, hk, hr⟩, hb =>
    ⟨hl, kv, cs, zs ++ ys, by rw [hx, List.append_assoc], hs, hk, hr.app hb⟩
theorem Nd.foC {P : Nat → Prop} {w : World} {k : Nat} {set : List Bool} {kids : Fo} {l m : Int} {c : Array Value} (h : Nd P w k set kids l m c) : FoC P w (.cons k set kids l m .nil) c.toList := by
  obtain ⟨hl, kv, cs, rfl, hs, hk⟩ := h
  exact ⟨hl, kv, cs, [], by simp, hs, hk, rfl⟩
theorem Nd.mono {P Q : Nat → Prop} {w : World} {k : Nat} {set : List Bool} {kids : Fo} {l m : Int} {c : Array Value} (h : Nd P w k set kids l m c) (hPQ : ∀ g, P g → g < w.heap.size → Q g) : Nd Q w k set kids l m c := by
  obtain ⟨hl, kv, cs, hc, hs, hk⟩ := h
  exact ⟨hl, kv, cs, hc, hs.mono hPQ, hk.mono hPQ⟩
theorem Nd.kept {P X : Nat → Prop} {w w' : World} {k : Nat} {set : List Bool} {kids : Fo} {l m : Int} {c : Array Value} (h : Nd P w k set kids l m c) (kp : Kp X w w') (hX : ∀ g, P g → ¬ X g) : Nd P w' k set kids l m c := by
  obtain ⟨hl, kv, cs, hc, hs, hk⟩ := h
  exact ⟨hl, kv, cs, hc, hs.kept kp hX, hk.kept kp hX⟩
theorem Nd.one {P : Nat → Prop} {w : World} {k : Nat} {set : List Bool} {l m : Int} (hl : set.length = 128) : Nd P w k set .nil l m (reC k (set.map .bool) (.slice none 0 0) l m) :=
  ⟨hl, _, [], rfl, ⟨rfl, .inl ⟨rfl, rfl⟩⟩, rfl⟩
theorem Nd.size {P : Nat → Prop} {w : World} {k : Nat} {set : List Bool} {kids : Fo} {l m : Int} {c : Array Value} (h : Nd P w k set kids l m c) : c.size = 132 := by
  obtain ⟨hl, kv, cs, rfl, _⟩ := h
  exact reC_size (by simpa using hl)
theorem Sl.oneCell {P : Nat → Prop} {w : World} {v : Value} {n : Nat} {xs : List Value} (h : Sl P w v n xs) : v.oneCell' = true := by
  rcases h.2 with ⟨rfl, _⟩ | ⟨g, cap, cur, rfl, _⟩ <;> rfl
theorem Nd.oneC {P : Nat → Prop} {w : World} {k : Nat} {set : List Bool} {kids : Fo} {l m : Int} {c : Array Value} (h : Nd P w k set kids l m c) : oneC c.toList := by
  obtain ⟨hl, kv, cs, rfl, hs, _⟩ := h
  exact oneC_reC oneC_map hs.oneCell
def RdPost (X : Nat → Prop) (rb : Nat) (s : ByteArray) (j : Nat) (k : Nat) (set : List Bool) (kids : Fo) (l m : Int) (w : World) (e : Ending) (w' : World) : Prop :=
  ∃ c, e = .returned (.agg c) ∧ Nd (fun g => w.heap.size ≤ g) w' k set kids l m c ∧ RS rb s j true w' ∧ Kp X w w'
theorem AtPost.rd {rb : Nat} {s : ByteArray} {j k : Nat} {set : List Bool} {w w' : World} {e : Ending} (h : AtPost rb s j k set w e w') (hl : set.length = 128) : RdPost (· = rb) rb s j k set .nil 0 0 w e w' :=
  ⟨_, h.1, Nd.one hl, h.2.1, h.2.2⟩
end Go.Proofs.YtpfgmiocdgfniaaGreatFmt
