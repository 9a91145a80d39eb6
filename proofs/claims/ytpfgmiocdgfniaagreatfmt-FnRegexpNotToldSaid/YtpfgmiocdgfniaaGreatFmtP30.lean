/- Joined by pack.py: FlA, PlR, PlW, PlT. -/
import Derived.Test.YtpfgmiocdgfniaaGreatFmtP28
import Derived.Test.YtpfgmiocdgfniaaGreatFmtP21
import Derived.Test.YtpfgmiocdgfniaaGreatFmtP18
set_option linter.unusedVariables false
set_option maxHeartbeats 8000000
set_option maxRecDepth 1000000
namespace Go.Proofs.YtpfgmiocdgfniaaGreatFmt
open Go.RowKit
open Re (Fo G Su Ato)
def fLs (fi fu : Bool) : List Nat := 115 :: ((if fi then [105] else []) ++ (if fu then [85] else []))
theorem prF_eq (fi fu : Bool) : Re.prF fi fu = 40 :: 63 :: (fLs fi fu ++ [41]) := by cases fi <;> cases fu <;> rfl
theorem fLs_mem (fi fu : Bool) : ∀ c ∈ fLs fi fu, c = 115 ∨ c = 105 ∨ c = 85 := by cases fi <;> cases fu <;> decide
theorem fLs_i (fold fi fu : Bool) : (fold || (fLs fi fu).contains 105) = (fold || fi) := by cases fold <;> cases fi <;> cases fu <;> rfl
theorem fLs_s (dot fi fu : Bool) : (dot || (fLs fi fu).contains 115) = true := by cases dot <;> cases fi <;> cases fu <;> rfl
structure FL (rb zb : Nat) (s : ByteArray) (j : Nat) (f d : Bool) (W V : World) : Prop where
  r : RS rb s j true V
  f : FS (zb + 1) f d V
  z : V.heap[zb]? = some (.cells reZ tRe (0, 0))
  k : Kp (fun x => x = rb ∨ x = zb + 1) W V
theorem FL.drewN {rb zb : Nat} {s : ByteArray} {j : Nat} {f d : Bool} {W V : World} (h : FL rb zb s j f d W V) (n : Nat) : FL rb zb s j f d W (V.drewN n) := ⟨h.r.drew n, h.f, h.z, h.k.drewN n⟩
theorem FL.up {rb zb : Nat} {s : ByteArray} {j : Nat} {f d : Bool} {W V : World} (h : FL rb zb s j f d W V) : FL rb zb s (j + 1) f d W (V.setCell ⟨rb, 1, none⟩ (.int .i64 ((j : Int) + 1))) := by
  have hne : rb ≠ zb + 1 := blk_ne h.r h.f (by decide)
  have hne2 : rb ≠ zb := blk_ne h.r h.z (by decide)
  have k : Kp (· = rb) V (V.setCell ⟨rb, 1, none⟩ (.int .i64 ((j : Int) + 1))) := Kp.setCell (X := (· = rb)) (p := ⟨rb, 1, none⟩) (Kp.refl _ V) (.inl rfl) _
  exact ⟨h.r.set (j := j + 1), k.heap (by show ¬ zb + 1 = rb; omega) h.f, k.heap (by show ¬ zb = rb; omega) h.z, h.k.trans (k.mono (fun x _ e => .inl e))⟩
theorem FL.setd {rb zb : Nat} {s : ByteArray} {j : Nat} {f d : Bool} {W V : World} (h : FL rb zb s j f d W V) : FL rb zb s j f true W (V.setCell ⟨zb + 1, 1, none⟩ (.bool true)) := by
  have hne : rb ≠ zb + 1 := blk_ne h.r h.f (by decide)
  have k : Kp (· = zb + 1) V (V.setCell ⟨zb + 1, 1, none⟩ (.bool true)) := Kp.setCell (X := (· = zb + 1)) (p := ⟨zb + 1, 1, none⟩) (Kp.refl _ V) (.inl rfl) _
  refine ⟨k.heap (by show ¬ rb = zb + 1; omega) h.r, ?_, k.heap (by show ¬ zb = zb + 1; omega) h.z, h.k.trans (k.mono (fun x _ e => .inr e))⟩
  have h2 := h.f
  unfold FS at h2 ⊢
  simp [World.setCell, Array.getElem?_modify, h2]
theorem FL.setf {rb zb : Nat} {s : ByteArray} {j : Nat} {f d : Bool} {W V : World} (h : FL rb zb s j f d W V) : FL rb zb s j true d W (V.setCell ⟨zb + 1, 0, none⟩ (.bool true)) := by
  have hne : rb ≠ zb + 1 := blk_ne h.r h.f (by decide)
  have k : Kp (· = zb + 1) V (V.setCell ⟨zb + 1, 0, none⟩ (.bool true)) := Kp.setCell (X := (· = zb + 1)) (p := ⟨zb + 1, 0, none⟩) (Kp.refl _ V) (.inl rfl) _
  refine ⟨k.heap (by show ¬ rb = zb + 1; omega) h.r, ?_, k.heap (by show ¬ zb = zb + 1; omega) h.z, h.k.trans (k.mono (fun x _ e => .inr e))⟩
  have h2 := h.f
  unfold FS at h2 ⊢
  simp [World.setCell, Array.getElem?_modify, h2]
theorem group_flg (rb fb : Nat) (s : ByteArray) (i : Nat) (fi fu : Bool) (l : List UInt8) (fold dot : Bool) (w : World) (hr : RS rb s i true w) (hf : FS fb fold dot w) (hs : s.size ≤ 274877906944) (hm : Rm s i (UInt8.ofNat 63 :: (bs (fLs fi fu) ++ (UInt8.ofNat 41 :: l)))) :
    Calls Tryz.prog 54 #[.pointer (some ⟨rb, 0, none⟩), .pointer (some ⟨fb, 0, none⟩)] w (AmPost rb fb s (i + 1 + (fLs fi fu).length + 1) (fold || fi) true 2 Re.no128 .nil w) := by
  have hz := zeroRe
  obtain ⟨f0, f1, hfl⟩ := hf.cells
  have hrl : rb < w.heap.size := hr.cells.2.2.2.2.2
  have hne : fb ≠ rb := blk_ne hf hr (by decide)
  have HR := Lib.hid hr
  have HM := Lib.hid hm
  have HF := Lib.hid hf
  clear hr hm hf
  go_enter Tryz.func54, Tryz.ntmps54
  go_wp2_with fail
  obtain ⟨W, hW⟩ : ∃ W, (w.alloc (.cells reZ tRe)).alloc (.cells #[.bool fold, .bool dot] tFl) = W := ⟨_, rfl⟩
  have hWs : W.heap.size = w.heap.size + 1 + 1 := by rw [← hW]; simp
  have kW : Kp (fun _ => False) w W := by rw [← hW]; exact ((Kp.refl _ _).alloc _).alloc _
  have z0 : W.heap[w.heap.size]? = some (.cells reZ tRe (0, 0)) := by
    rw [← hW, Lib.alloc_old _ _ _ (by simp)]; exact heap_alloc_new w _
  have fl0 : FS (w.heap.size + 1) fold dot W := by
    unfold FS
    rw [← hW]; have := heap_alloc_new (w.alloc (.cells reZ tRe)) (.cells #[.bool fold, .bool dot] tFl); simpa using this
  have hrw : RS rb s i true W := HR.out.kept kW id
  rw [hW]
  refine (skip_t rb s ⟨#[63]⟩ i true W _ hrw (by omega) HM.out).mono ?_
  rintro e w1 ⟨rfl, hr1, hk1⟩
  have H1 : Hid (FL rb w.heap.size s (i + 1) fold dot W w1) := Lib.hid ⟨hr1, hk1.heap (by show ¬ w.heap.size + 1 = rb; omega) fl0, hk1.heap (by show ¬ w.heap.size = rb; omega) z0, hk1.mono (fun x _ h => .inl h)⟩
  have KW := Lib.hid kW
  clear hW fl0 f0 f1 z0 hr1 hk1 kW hrw
  go_wp2_with fail
  go_loopg [6] (fLs fi fu).length (fun g s6 wx => s6 = .bool true ∧ ∃ (ls : List Nat) (j : Nat) (f d : Bool), ls.length = g ∧ (∀ c ∈ ls, c = 115 ∨ c = 105 ∨ c = 85) ∧ Rm s j (bs ls ++ (UInt8.ofNat 41 :: l)) ∧ FL rb w.heap.size s j f d W wx ∧ (f || ls.contains 105) = (fold || fi) ∧ (d || ls.contains 115) = true ∧ j + ls.length = i + 1 + (fLs fi fu).length)
  case atStart => exact ⟨rfl, fLs fi fu, i + 1, fold, dot, rfl, fLs_mem fi fu, HM.out.tail, H1.out, fLs_i fold fi fu, fLs_s dot fi fu, rfl⟩
  case round =>
    obtain ⟨rfl, ls, j, f, d, hg, hls, hrm, hFL, hf', hd', hj⟩ := hrel
    have HFL := Lib.hid hFL
    obtain ⟨c0, c1, c2, q4, q5, _⟩ := hFL.r.cells
    obtain ⟨fc0, fc1, _⟩ := hFL.f.cells
    obtain ⟨hji, hat⟩ : ∃ hi : j < s.size, s[j] = UInt8.ofNat ((ls ++ [41]).headD 0) := by
      cases ls with
      | nil => exact hrm.at
      | cons a r => exact hrm.at
    have hlt : decide ((j : Int) < (s.size : Int)) = true := by simp; omega
    have HMO : Hid (∀ w, RS rb s j true w → Calls Tryz.prog 31 #[.pointer (some ⟨rb, 0, none⟩)] w fun e w' => e = .returned (.bool true) ∧ ∃ n, w' = w.drewN n) := Lib.hid fun w h => by
      have := more_any rb s j true w h
      rw [hlt] at this
      exact this
    clear hlt
    cases ls with
    | nil =>
      obtain rfl : gk = 0 := by simp at hg; omega
      have hsi : (((s[j]'hji).toNat : Nat) : Int) = 41 := by rw [hat]; rfl
      go_wp2
      go_quiet ((go_at_call 31; refine (HMO.out _ (HFL.out.r.drew _)).mono ?_; rintro e w' ⟨h1, n, h2⟩; exact ⟨h1, _, by rw [h2, World.drewN_drewN]⟩))
      go_wp2_with fail
      have hf0 : f = (fold || fi) := by rw [← hf']; simp
      have hd0 : d = true := by rw [← hd']; simp
      subst hd0
      have hrm' : Rm s j (UInt8.ofNat 41 :: l) := hrm
      clear c0 c1 c2 q4 q5 fc0 fc1 hsi hat hrm hls hf' hd' hFL
      refine (skip_t rb s ⟨#[41]⟩ j true (wr.drewN nq) l (HFL.out.r.drew nq) (by omega) hrm').mono ?_
      rintro e w2 ⟨rfl, hr2, hk2⟩
      have hz2 : w2.heap[w.heap.size]? = some (.cells reZ tRe (0, 0)) := hk2.heap (by show ¬ w.heap.size = rb; omega) HFL.out.z
      have hf2 : FS (w.heap.size + 1) f true w2 := hk2.heap (by show ¬ w.heap.size + 1 = rb; omega) HFL.out.f
      have hkW : Kp (fun x => x = rb ∨ x = w.heap.size + 1) W w2 := (HFL.out.k.drewN nq).trans (hk2.mono (fun x _ h => .inl h))
      have hfb : FS fb fold dot w2 := (hkW.heap (by show ¬ (fb = rb ∨ fb = w.heap.size + 1); omega) (KW.out.heap id HF.out))
      obtain ⟨f0, f1, _⟩ := hf2.cells
      obtain ⟨f2, f3, _⟩ := hfb.cells
      have f4 : w2.frozen? ⟨fb, 0, none⟩ = false := Lib.frozen_of_heap hfb 0
      have f5 : w2.frozen? ⟨fb, 1, none⟩ = false := Lib.frozen_of_heap hfb 1
      have HZ2 := Lib.hid hz2
      have HF2 := Lib.hid hf2
      have HFB := Lib.hid hfb
      have HKW := Lib.hid hkW
      have HR2 := Lib.hid hr2
      clear hz2 hf2 hkW hfb hr2 hk2
      go_wp2_with fail
      clear f0 f1 f2 f3 f4 f5
      obtain ⟨W3, hW3⟩ : ∃ W3, (w2.setCell ⟨fb, 0, none⟩ (.bool (fold || fi))).setCell ⟨fb, 1, none⟩ (.bool true) = W3 := ⟨_, rfl⟩
      have k3 : Kp (· = fb) w2 W3 := by
        rw [← hW3]; exact Kp.setCell (X := (· = fb)) (p := ⟨fb, 1, none⟩) (Kp.setCell (X := (· = fb)) (p := ⟨fb, 0, none⟩) (Kp.refl _ w2) (.inl rfl) _) (.inl rfl) _
      have f3 : FS fb (fold || fi) true W3 := by
        have h := HFB.out
        unfold FS at h ⊢
        rw [← hW3]
        simp [World.setCell, Array.getElem?_modify, h]
      have z3 : W3.heap[w.heap.size]? = some (.cells reZ tRe (0, 0)) := k3.heap (by show ¬ w.heap.size = fb; omega) HZ2.out
      have r3 : RS rb s (j + 1) true W3 := k3.heap (by show ¬ rb = fb; omega) HR2.out
      have kall : Kp (XR rb fb) w W3 := by
        refine Kp.trans (b := w2) ((KW.out.false_mono.trans HKW.out : Kp (fun x => x = rb ∨ x = w.heap.size + 1) w w2).mono (fun x hx h => ?_)) (k3.mono (fun x _ h => .inr h))
        rcases h with h | h
        · exact .inl h
        · omega
      rw [hW3]
      clear hW3
      rw [storeRe W3 w.heap.size reZ (reZ.toList.set 0 (.int .i64 2)) z3 rfl rfl (oneC_set2 2), reZ_set]
      have F3 := Lib.hid f3
      have Z3 := Lib.hid z3
      have R3 := Lib.hid r3
      have KA := Lib.hid kall
      clear f3 z3 r3 kall k3
      go_wp2
      have kz : Kp (fun x => x = w.heap.size) W3 (W3.setRow w.heap.size (reC 2 noV (.slice none 0 0) 0 0)) := Kp.setRow (X := fun x => x = w.heap.size) (g := w.heap.size) (Kp.refl _ W3) (.inl rfl) _
      refine bodyPost_ret (v := .agg (reC 2 noV (.slice none 0 0) 0 0)) (resultRe Tryz.results54 _ _ w.heap.size _ rfl (setRow_heap _ _ reZ _ tRe (0, 0) Z3.out) rfl) rfl ⟨_, rfl, ?_, ?_, ?_, ?_⟩
      · have e : noV = Re.no128.map Value.bool := by simp [noV, Re.falses]
        rw [e]
        exact Nd.one (by simp [Re.falses])
      · have hj0 : j + 1 = i + 1 + (fLs fi fu).length + 1 := by simp at hj; omega
        rw [← hj0]
        exact R3.out.kept kz (by show ¬ rb = w.heap.size; omega)
      · exact kz.heap (by show ¬ fb = w.heap.size; omega) F3.out
      · exact KA.out.setRow (.inr (Nat.le_refl _)) _
    | cons a r =>
      obtain ⟨g, rfl⟩ : ∃ g, gk = g + 1 := ⟨r.length, by simp at hg; omega⟩
      have hrt : Rm s (j + 1) (bs r ++ (UInt8.ofNat 41 :: l)) := hrm.tail
      have hsi : (((s[j]'hji).toNat : Nat) : Int) = ((UInt8.ofNat a).toNat : Nat) := by rw [hat]; rfl
      have q6 : wr.frozen? ⟨w.heap.size + 1, 0, none⟩ = false := Lib.frozen_of_heap hFL.f 0
      have q7 : wr.frozen? ⟨w.heap.size + 1, 1, none⟩ = false := Lib.frozen_of_heap hFL.f 1
      have hjs : (j : Int) < (s.size : Int) := by omega
      have ha := hls a (by simp)
      clear hat hFL hrm
      rcases ha with rfl | rfl | rfl
      · have hsi' : (((s[j]'hji).toNat : Nat) : Int) = 115 := hsi
        clear hsi
        go_wp2
        go_quiet ((go_at_call 31; refine (HMO.out _ (HFL.out.r.drew _)).mono ?_; rintro e w' ⟨h1, n, h2⟩; exact ⟨h1, _, by rw [h2, World.drewN_drewN]⟩))
        go_wp2
        go_quiet (fail)
        go_wp2
        go_roundg g
        case measure => omega
        case rel => exact ⟨rfl, r, j + 1, f, true, by simpa using hg, fun c hc => hls c (by simp [hc]), hrt, (HFL.out.drewN _).setd.up, by rw [← hf']; simp, by rw [← hd']; simp, by simp at hj; omega⟩
      · have hsi' : (((s[j]'hji).toNat : Nat) : Int) = 105 := hsi
        clear hsi
        go_wp2
        go_quiet ((go_at_call 31; refine (HMO.out _ (HFL.out.r.drew _)).mono ?_; rintro e w' ⟨h1, n, h2⟩; exact ⟨h1, _, by rw [h2, World.drewN_drewN]⟩))
        go_wp2
        go_quiet (fail)
        go_wp2
        go_roundg g
        case measure => omega
        case rel => exact ⟨rfl, r, j + 1, true, d, by simpa using hg, fun c hc => hls c (by simp [hc]), hrt, (HFL.out.drewN _).setf.up, by rw [← hf']; simp, by rw [← hd']; simp, by simp at hj; omega⟩
      · have hsi' : (((s[j]'hji).toNat : Nat) : Int) = 85 := hsi
        clear hsi
        go_wp2
        go_quiet ((go_at_call 31; refine (HMO.out _ (HFL.out.r.drew _)).mono ?_; rintro e w' ⟨h1, n, h2⟩; exact ⟨h1, _, by rw [h2, World.drewN_drewN]⟩))
        go_wp2
        go_quiet (fail)
        go_wp2
        go_roundg g
        case measure => omega
        case rel => exact ⟨rfl, r, j + 1, f, d, by simpa using hg, fun c hc => hls c (by simp [hc]), hrt, (HFL.out.drewN _).up, by rw [← hf']; simp, by rw [← hd']; simp, by simp at hj; omega⟩
theorem flg_ok : FlgOK := by
  intro rb fb s i fi fu r fold dot w hr hf hs hm
  have e : bs (Re.prF fi fu) ++ r = UInt8.ofNat 40 :: (UInt8.ofNat 63 :: (bs (fLs fi fu) ++ (UInt8.ofNat 41 :: r))) := by
    rw [prF_eq]; simp [bs]
  rw [e] at hm
  have el : i + (Re.prF fi fu).length = i + 1 + 1 + (fLs fi fu).length + 1 := by rw [prF_eq]; simp; omega
  rw [el]
  exact atom_par rb fb s i _ _ fold dot (fold || fi) true 2 Re.no128 .nil w hr hf (by omega) hm (fun V _ hr hfV => group_flg rb fb s (i + 1) fi fu r fold dot V hr hfV hs hm.tail)
end Go.Proofs.YtpfgmiocdgfniaaGreatFmt

namespace Go.Proofs.YtpfgmiocdgfniaaGreatFmt.Re
def sq (s : List UInt8) (g : G) (f d : Bool) (i j : Nat) : Prop := (rel s (ms g f d).1).seq i j
def noBar : G → Prop
  | .done => True
  | .bar _ => False
  | .ato _ _ r => noBar r
  | .grp _ _ r => noBar r
  | .flg _ _ r => noBar r
theorem noBar_nil : ∀ (g : G) (f d : Bool), noBar g → (ms g f d).2 = .nil
  | .done, _, _, _ => rfl
  | .bar _, _, _, h => h.elim
  | .ato _ _ r, f, d, h => noBar_nil r f d h
  | .grp _ _ r, f, d, h => noBar_nil r f d h
  | .flg i u r, f, d, h => noBar_nil r (f || i) true h
theorem alt_lists (s : List UInt8) (g : G) (f d : Bool) (i j : Nat) (h : noBar g) : (rel s (lists g f d)).alt i j ↔ sq s g f d i j := by
  simp only [lists, rel, noBar_nil g f d h, or_false]
  exact Iff.rfl
theorem alt_bar (s : List UInt8) (g r : G) (f d : Bool) (i j : Nat) : (rel s (lists (.bar r) f d)).alt i j ↔ i = j ∨ (rel s (lists r f d)).alt i j := Iff.rfl
theorem sq_done (s : List UInt8) (f d : Bool) (i j : Nat) : sq s .done f d i j ↔ i = j := Iff.rfl
theorem sq_flg (s : List UInt8) (a u : Bool) (r : G) (f d : Bool) (i j : Nat) : sq s (.flg a u r) f d i j ↔ sq s r (f || a) true i j := by
  constructor
  · rintro ⟨t, h, h2⟩
    cases (show i = t from h)
    exact h2
  · intro h
    exact ⟨i, (rfl : i = i), h⟩
theorem sq_beg (s : List UInt8) (r : G) (f d : Bool) (i j : Nat) : sq s (.ato .beg .one r) f d i j ↔ i = 0 ∧ sq s r f d 0 j := by
  constructor
  · rintro ⟨t, h, h2⟩
    obtain ⟨rfl, rfl⟩ := (show i = 0 ∧ t = 0 from h)
    exact ⟨rfl, h2⟩
  · rintro ⟨rfl, h⟩
    exact ⟨0, (⟨rfl, rfl⟩ : (0 : Nat) = 0 ∧ (0 : Nat) = 0), h⟩
theorem sq_fin (s : List UInt8) (r : G) (f d : Bool) (i j : Nat) : sq s (.ato .fin .one r) f d i j ↔ i = s.length ∧ sq s r f d s.length j := by
  constructor
  · rintro ⟨t, h, h2⟩
    obtain ⟨rfl, rfl⟩ := (show i = s.length ∧ t = s.length from h)
    exact ⟨rfl, h2⟩
  · rintro ⟨rfl, h⟩
    exact ⟨s.length, (⟨rfl, rfl⟩ : s.length = s.length ∧ s.length = s.length), h⟩
theorem setL_get (p : Nat → Bool) (f n : Bool) (x : Nat) (h : x < 128) : (setL p f n).getD x false = ((p x || (f && p (oth x))) != n) := by
  simp [setL, h]
theorem sq_set (s : List UInt8) (a : Ato) (r : G) (f d : Bool) (i j : Nat) (h1 : (ndA f d a).1 = 1) : sq s (.ato a .one r) f d i j ↔ (∃ c, s[i]? = some c ∧ c.toNat < 128 ∧ (ndA f d a).2.getD c.toNat false = true) ∧ sq s r f d (i + 1) j := by
  have e : sq s (.ato a .one r) f d i j ↔ ∃ t, nodeR s (ndA f d a).1 (ndA f d a).2 (rel s .nil) 0 0 i t ∧ sq s r f d t j := Iff.rfl
  rw [e, h1]
  constructor
  · rintro ⟨t, h, h2⟩
    obtain ⟨rfl, hc⟩ := (show setR s (ndA f d a).2 i t from h)
    exact ⟨hc, h2⟩
  · rintro ⟨hc, h⟩
    exact ⟨i + 1, (⟨rfl, hc⟩ : setR s (ndA f d a).2 i (i + 1)), h⟩
theorem sq_dot (s : List UInt8) (hs : asc s) (r : G) (f : Bool) (i j : Nat) : sq s (.ato .dot .one r) f true i j ↔ i < s.length ∧ sq s r f true (i + 1) j := by
  rw [sq_set s .dot r f true i j rfl]
  constructor
  · rintro ⟨⟨c, h1, _, _⟩, h⟩
    exact ⟨(List.getElem?_eq_some_iff.1 h1).1, h⟩
  · rintro ⟨h1, h⟩
    have hc := hs s[i] (List.getElem_mem h1)
    refine ⟨⟨s[i], List.getElem?_eq_getElem h1, hc, ?_⟩, h⟩
    show (setL (fun x => true || x != 10) false false).getD s[i].toNat false = true
    rw [setL_get _ _ _ _ hc]; rfl
theorem pow_dot (s : List UInt8) (hs : asc s) (set : List Bool) (hset : ∀ x, x < 128 → set.getD x false = true) : ∀ n i t, pow (setR s set) n i t ↔ t = i + n ∧ (n = 0 ∨ t ≤ s.length)
  | 0, i, t => by
    constructor
    · intro h; cases (show i = t from h); exact ⟨rfl, .inl rfl⟩
    · rintro ⟨h, _⟩; exact h.symm
  | n + 1, i, t => by
    constructor
    · rintro ⟨k, ⟨rfl, c, hc, _, _⟩, h2⟩
      have hi := (List.getElem?_eq_some_iff.1 hc).1
      obtain ⟨rfl, h3⟩ := (pow_dot s hs set hset n (i + 1) t).1 h2
      exact ⟨by omega, .inr (by omega)⟩
    · rintro ⟨rfl, h3⟩
      have hi : i < s.length := by omega
      refine ⟨i + 1, ⟨rfl, s[i], List.getElem?_eq_getElem hi, hs _ (List.getElem_mem hi), hset _ (hs _ (List.getElem_mem hi))⟩, (pow_dot s hs set hset n (i + 1) _).2 ⟨by omega, .inr (by omega)⟩⟩
theorem sq_dotstar (s : List UInt8) (hs : asc s) (r : G) (f : Bool) (i j : Nat) (hi : i ≤ s.length) : sq s (.ato .dot .star r) f true i j ↔ ∃ t, i ≤ t ∧ t ≤ s.length ∧ sq s r f true t j := by
  have e : sq s (.ato .dot .star r) f true i j ↔ ∃ t, timesR (setR s (setL (fun x => true || x != 10) false false)) 0 (-1) i t ∧ sq s r f true t j := Iff.rfl
  rw [e]
  have hset : ∀ x, x < 128 → (setL (fun x => true || x != 10) false false).getD x false = true := fun x hx => by rw [setL_get _ _ _ _ hx]; rfl
  constructor
  · rintro ⟨t, ⟨n, _, _, hp⟩, h⟩
    obtain ⟨rfl, h3⟩ := (pow_dot s hs _ hset n i t).1 hp
    exact ⟨i + n, by omega, by omega, h⟩
  · rintro ⟨t, h1, h2, h⟩
    exact ⟨t, ⟨t - i, by omega, .inl (by omega), (pow_dot s hs _ hset _ i t).2 ⟨by omega, .inr h2⟩⟩, h⟩
def gl : List Nat → G → G
  | [], r => r
  | c :: l, r => .ato (.lit c) .one (gl l r)
theorem gl_noBar : ∀ (l : List Nat) (r : G), noBar r → noBar (gl l r)
  | [], _, h => h
  | _ :: l, r, h => gl_noBar l r h
theorem gl_ok : ∀ (l : List Nat) (r : G), (∀ c ∈ l, litOk c = true) → r.ok = true → (gl l r).ok = true
  | [], _, _, h => h
  | c :: l, r, hl, h => by
    simp only [gl, G.ok, Ato.ok, hl c (by simp), Bool.true_and]
    exact gl_ok l r (fun d hd => hl d (by simp [hd])) h
theorem pr_gl : ∀ (l : List Nat) (r : G), pr (gl l r) = l ++ pr r
  | [], _ => rfl
  | c :: l, r => by simp [gl, pr, prA, prS, pr_gl l r]
theorem sq_lit (s : List UInt8) (c : Nat) (hc : c < 128) (r : G) (d : Bool) (i j : Nat) : sq s (.ato (.lit c) .one r) false d i j ↔ s[i]? = some (UInt8.ofNat c) ∧ sq s r false d (i + 1) j := by
  rw [sq_set s (.lit c) r false d i j rfl]
  refine and_congr_left fun _ => ?_
  constructor
  · rintro ⟨b, h1, h2, h3⟩
    have h4 : (setL (fun x => x == c) false false).getD b.toNat false = true := h3
    rw [setL_get _ _ _ _ h2] at h4
    simp at h4
    rw [h1, ← h4]; simp
  · intro h
    refine ⟨_, h, by simp; omega, ?_⟩
    show (setL (fun x => x == c) false false).getD (UInt8.ofNat c).toNat false = true
    have e : (UInt8.ofNat c).toNat = c := by simp; omega
    rw [e, setL_get _ _ _ _ hc]; simp
theorem sq_lit_pos (s : List UInt8) (c : Nat) (hc : c < 128) (r : G) (f d : Bool) (i j : Nat) (h : s[i]? = some (UInt8.ofNat c)) (h2 : sq s r f d (i + 1) j) : sq s (.ato (.lit c) .one r) f d i j := by
  rw [sq_set s (.lit c) r f d i j rfl]
  refine ⟨⟨_, h, by simp; omega, ?_⟩, h2⟩
  show (setL (fun x => x == c) f false).getD (UInt8.ofNat c).toNat false = true
  have e : (UInt8.ofNat c).toNat = c := by simp; omega
  rw [e, setL_get _ _ _ _ hc]; simp
theorem sq_gl (s : List UInt8) (d : Bool) : ∀ (l : List Nat) (r : G) (i j : Nat), (∀ c ∈ l, c < 128) → (sq s (gl l r) false d i j ↔ (s.drop i).take l.length = l.map UInt8.ofNat ∧ sq s r false d (i + l.length) j)
  | [], r, i, j, _ => by simp [gl]
  | c :: l, r, i, j, h => by
    rw [gl, sq_lit s c (h c (by simp)), sq_gl s d l r (i + 1) j (fun x hx => h x (by simp [hx]))]
    have e1 : i + 1 + l.length = i + (c :: l).length := by simp; omega
    rw [e1, ← and_assoc]
    refine and_congr_left fun _ => ?_
    rcases Nat.lt_or_ge i s.length with hi | hi
    · rw [List.getElem?_eq_getElem hi, List.drop_eq_getElem_cons hi]
      simp only [List.length_cons, List.take_succ_cons, List.map_cons, List.cons.injEq, Option.some.injEq]
    · rw [List.getElem?_eq_none hi, List.drop_eq_nil_of_le hi]
      simp
theorem sq_gl_pos (s : List UInt8) (f d : Bool) : ∀ (l : List Nat) (r : G) (i j : Nat), (∀ c ∈ l, c < 128) → (s.drop i).take l.length = l.map UInt8.ofNat → sq s r f d (i + l.length) j → sq s (gl l r) f d i j
  | [], r, i, j, _, _, h => h
  | c :: l, r, i, j, h, h1, h2 => by
    rcases Nat.lt_or_ge i s.length with hi | hi
    · rw [List.drop_eq_getElem_cons hi] at h1
      simp only [List.length_cons, List.take_succ_cons, List.map_cons, List.cons.injEq] at h1
      refine sq_lit_pos s c (h c (by simp)) _ f d i j (by rw [List.getElem?_eq_getElem hi, h1.1]) (sq_gl_pos s f d l r (i + 1) j (fun x hx => h x (by simp [hx])) h1.2 ?_)
      have e1 : i + 1 + l.length = i + (c :: l).length := by simp; omega
      rw [e1]; exact h2
    · rw [List.drop_eq_nil_of_le hi] at h1
      simp at h1
theorem sq_grp (s : List UInt8) (g r : G) (f d : Bool) (i j : Nat) : sq s (.grp g .one r) f d i j ↔ ∃ t, (rel s (lists g f d)).alt i t ∧ sq s r f d t j := Iff.rfl
theorem sq_grp_star (s : List UInt8) (g r : G) (f d : Bool) (i j : Nat) : sq s (.grp g .star r) f d i j ↔ ∃ t, timesR (rel s (lists g f d)).alt 0 (-1) i t ∧ sq s r f d t j := Iff.rfl
theorem sq_grp_plus (s : List UInt8) (g r : G) (f d : Bool) (i j : Nat) : sq s (.grp g .plus r) f d i j ↔ ∃ t, timesR (rel s (lists g f d)).alt 1 (-1) i t ∧ sq s r f d t j := Iff.rfl
theorem sq_grp_opt (s : List UInt8) (g r : G) (f d : Bool) (i j : Nat) : sq s (.grp g .opt r) f d i j ↔ ∃ t, timesR (rel s (lists g f d)).alt 0 1 i t ∧ sq s r f d t j := Iff.rfl
def fnd (s : List UInt8) (g : G) : Bool := foundE s 3 no128 (lists g false false) 0 0
theorem fnd_iff (s : List UInt8) (g : G) (h : noBar g) : fnd s g = true ↔ ∃ i j, i ≤ s.length ∧ sq s g false false i j := by
  unfold fnd
  rw [found_iff s _ (lists_tame g false false)]
  simp only [alt_lists s g false false _ _ h]
end Go.Proofs.YtpfgmiocdgfniaaGreatFmt.Re

namespace Go.Proofs.YtpfgmiocdgfniaaGreatFmt
open Go.RowKit Go.Extern
open Re (G Ato Su gl sq)
theorem dec_at (s : ByteArray) (i : Nat) (hi : i < s.size) (h : (s[i]).toNat < 128) : Utf8.decode s i = ((s[i]).toNat, 1) := by
  have e : s.get! (i + 0) = s[i] := by
    rw [Nat.add_zero]
    show s.data[i]! = _
    have : i < s.data.size := hi
    rw [getElem!_pos s.data i this]
    rfl
  unfold Utf8.decode
  simp only [e]
  rw [if_pos h]
theorem nx_at (s : ByteArray) (i : Nat) (hi : i < s.size) (h : (s[i]).toNat < 128) : nx s i = ((s[i]).toNat, i + 1) := by
  unfold nx
  rw [if_pos hi, dec_at s i hi h]
theorem nx_end (s : ByteArray) (i : Nat) (hi : s.size ≤ i) : nx s i = (0, i) := by
  unfold nx
  rw [if_neg (by omega)]
def pcOk (md : Md) (c : Nat) : Bool := decide (1 ≤ c) && decide (c < 128) && c != 91 && c != 92 && (!md.fil || (c != 42 && c != 63))
def pcW (c : Nat) : List Nat := if c = 42 then [46, 42] else if c = 63 then [46] else if reMeta c then [92, c] else [c]
theorem rq1_small (c : Nat) (h : c < 128) : rq [UInt8.ofNat c] = bs (if reMeta c then [92, c] else [c]) := by
  have e : (UInt8.ofNat c).toNat = c := by simp; omega
  simp only [rq, rq1, List.flatMap_cons, List.flatMap_nil, List.append_nil, e]
  split <;> simp [bs]
theorem rest_plain (md : Md) (s : ByteArray) (c i : Nat) (h : pcOk md c = true) : rest md s c i = ⟨0, 0, i, bs (pcW c)⟩ := by
  simp only [pcOk, Bool.and_eq_true, decide_eq_true_eq, bne_iff_ne, ne_eq, Bool.or_eq_true, Bool.not_eq_true'] at h
  obtain ⟨⟨⟨⟨h1, h2⟩, h3⟩, h4⟩, h5⟩ := h
  unfold rest
  rw [if_neg (by omega)]
  by_cases e1 : c = 42
  · subst e1
    have hf : md.fil = false := by rcases h5 with h5 | h5; exact h5; exact absurd rfl h5.1
    rw [if_pos rfl]
    simp [star, hf, dotstar, pcW, bs]
  · rw [if_neg e1]
    by_cases e2 : c = 63
    · subst e2
      have hf : md.fil = false := by rcases h5 with h5 | h5; exact h5; exact absurd rfl h5.2
      rw [if_pos rfl]
      simp [hf, pcW, bs]
    · rw [if_neg e2, if_neg h4, if_neg h3, if_neg (by omega), en_small c h2, rq1_small c h2]
      simp [pcW, e1, e2]
def nums (s : ByteArray) : List Nat := s.data.toList.map UInt8.toNat
theorem nums_len (s : ByteArray) : (nums s).length = s.size := by simp [nums]
theorem nums_drop (s : ByteArray) (i : Nat) (hi : i < s.size) : (nums s).drop i = (s[i]).toNat :: (nums s).drop (i + 1) := by
  rw [List.drop_eq_getElem_cons (by rw [nums_len]; exact hi)]
  simp [nums, ByteArray.getElem_eq_getElem_data]
theorem bs_nums (s : ByteArray) : bs (nums s) = s.data.toList := by
  simp [bs, nums, Function.comp_def]
theorem next_plain (md : Md) (hx : md.ext = false) (s : ByteArray) (f i : Nat) (hi : i < s.size) (h : pcOk md (s[i]).toNat = true) : next md s (f + 1) i = ⟨0, 0, i + 1, bs (pcW (s[i]).toNat)⟩ := by
  have h2 : (s[i]).toNat < 128 := by simp [pcOk] at h; omega
  unfold next
  rw [hx, nx_at s i hi h2]
  simp only [Bool.false_and, Bool.false_eq_true, if_false]
  exact rest_plain md s _ _ h
theorem next_end (md : Md) (hx : md.ext = false) (s : ByteArray) (f i : Nat) (hi : s.size ≤ i) : (next md s (f + 1) i).err = 1 := by
  unfold next
  rw [hx, nx_end s i hi]
  simp [rest]
theorem loop_plain (md : Md) (hx : md.ext = false) (s : ByteArray) (h : ∀ c ∈ nums s, pcOk md c = true) : ∀ (n f i : Nat) (acc : List UInt8), i + n = s.size → n < f → loopR md s f i acc [] = .done (acc ++ bs (((nums s).drop i).flatMap pcW)) []
  | 0, f + 1, i, acc, hi, _ => by
    unfold loopR
    rw [if_pos (next_end md hx s s.size i (by omega)), List.drop_of_length_le (by rw [nums_len]; omega)]
    simp [bs]
  | n + 1, f + 1, i, acc, hi, hf => by
    have hi2 : i < s.size := by omega
    have hc : pcOk md (s[i]).toNat = true := h _ (by
      have : (s[i]).toNat ∈ (nums s).drop i := by rw [nums_drop s i hi2]; simp
      exact List.mem_of_mem_drop this)
    unfold loopR
    rw [next_plain md hx s s.size i hi2 hc]
    simp only [if_true, show ¬ (0 : Nat) = 1 from by omega, if_false]
    rw [loop_plain md hx s h n f (i + 1) _ (by omega) (by omega), nums_drop s i hi2]
    simp [bs]
def gp : List Nat → G → G
  | [], r => r
  | c :: l, r => if c = 42 then .ato .dot .star (gp l r) else if c = 63 then .ato .dot .one (gp l r) else if reMeta c then .ato (.esc c) .one (gp l r) else .ato (.lit c) .one (gp l r)
theorem pr_gp : ∀ (l : List Nat) (r : G), Re.pr (gp l r) = l.flatMap pcW ++ Re.pr r
  | [], r => rfl
  | c :: l, r => by
    simp only [gp, List.flatMap_cons, pcW]
    split
    · simp [Re.pr, Re.prA, Re.prS, pr_gp l r]
    · split
      · simp [Re.pr, Re.prA, Re.prS, pr_gp l r]
      · split <;> simp [Re.pr, Re.prA, Re.prS, pr_gp l r]
theorem lit_of (c : Nat) (h : c < 128) (hm : reMeta c = false) : Re.litOk c = true := by
  have : ∀ c, c < 128 → reMeta c = false → Re.litOk c = true := by decide
  exact this c h hm
theorem esc_of (c : Nat) (h : c < 128) (hm : reMeta c = true) : Re.escOk c = true := by
  have : ∀ c, c < 128 → reMeta c = true → Re.escOk c = true := by decide
  exact this c h hm
theorem gp_ok : ∀ (l : List Nat) (r : G), (∀ c ∈ l, c < 128) → r.ok = true → (gp l r).ok = true
  | [], r, _, h => h
  | c :: l, r, hl, h => by
    have ih := gp_ok l r (fun d hd => hl d (by simp [hd])) h
    have hc := hl c (by simp)
    simp only [gp]
    split
    · simp [Re.G.ok, Re.Ato.ok, ih]
    · split
      · simp [Re.G.ok, Re.Ato.ok, ih]
      · split
        · rename_i hm; simp [Re.G.ok, Re.Ato.ok, ih, esc_of c hc hm]
        · rename_i hm; simp [Re.G.ok, Re.Ato.ok, ih, lit_of c hc (by simpa using hm)]
theorem gp_noBar : ∀ (l : List Nat) (r : G), Re.noBar r → Re.noBar (gp l r)
  | [], _, h => h
  | c :: l, r, h => by
    simp only [gp]
    split
    · exact gp_noBar l r h
    · split
      · exact gp_noBar l r h
      · split <;> exact gp_noBar l r h
theorem gp_noC : ∀ (l : List Nat) (r : G), noC r = true → noC (gp l r) = true
  | [], _, h => h
  | c :: l, r, h => by
    simp only [gp]
    split
    · simp [noC, gp_noC l r h]
    · split
      · simp [noC, gp_noC l r h]
      · split <;> simp [noC, gp_noC l r h]
def gAll (ent nc sho : Bool) (l : List Nat) : G := .flg nc sho (if ent then .ato .beg .one (gp l (.ato .fin .one .done)) else gp l .done)
theorem pr_all (ent nc sho : Bool) (l : List Nat) : bs (Re.pr (gAll ent nc sho l)) = hdr ent nc sho ++ bs (l.flatMap pcW) ++ (if ent then [36] else []) := by
  cases ent <;> cases nc <;> cases sho <;> simp [gAll, Re.pr, Re.prF, Re.prA, Re.prS, pr_gp, hdr, bs]
theorem reg_plain (md : Md) (hx : md.ext = false) (ent nc sho : Bool) (s : ByteArray) (h : ∀ c ∈ nums s, pcOk md c = true) (hsc : (ent || nc) = true ∨ shc s (s.size + 1) 0 = true) :
    regexpM md ent nc sho s = .ok (bs (Re.pr (gAll ent nc sho (nums s)))) := by
  unfold regexpM
  rw [if_neg (by rintro ⟨h1, h2⟩; rcases hsc with h3 | h3; rw [h1] at h3; cases h3; rw [h2] at h3; cases h3)]
  rw [loop_plain md hx s h s.size (s.size + 1) 0 _ (by omega) (by omega), pr_all]
  simp [rOut]
end Go.Proofs.YtpfgmiocdgfniaaGreatFmt

namespace Go.Proofs.YtpfgmiocdgfniaaGreatFmt
open Re (G Ato Su gl sq fnd)
def litC (c : Nat) : Prop := c < 128 ∧ c ≠ 42 ∧ c ≠ 63
theorem sq_esc (s : List UInt8) (c : Nat) (r : G) (f d : Bool) (i j : Nat) : sq s (.ato (.esc c) .one r) f d i j ↔ sq s (.ato (.lit c) .one r) f d i j := Iff.rfl
theorem sq_ato_congr (s : List UInt8) (a : Ato) (q : Su) (r r' : G) (f d : Bool) (h : ∀ i j, sq s r f d i j ↔ sq s r' f d i j) (i j : Nat) : sq s (.ato a q r) f d i j ↔ sq s (.ato a q r') f d i j := by
  have e : ∀ (r : G) , sq s (.ato a q r) f d i j = (Re.rel s (Re.sfx q (Re.ndA f d a).1 (Re.ndA f d a).2 .nil (Re.ms r f d).1)).seq i j := fun _ => rfl
  rw [e, e]
  cases q <;> exact exists_congr fun t => and_congr_right fun _ => h t j
theorem sq_gp (s : List UInt8) (f d : Bool) : ∀ (l : List Nat) (r : G) (i j : Nat), (∀ c ∈ l, litC c) → (sq s (gp l r) f d i j ↔ sq s (gl l r) f d i j)
  | [], r, i, j, _ => Iff.rfl
  | c :: l, r, i, j, h => by
    have hc := h c (by simp)
    have ih := fun i j => sq_gp s f d l r i j (fun x hx => h x (by simp [hx]))
    simp only [gp, gl, if_neg hc.2.1, if_neg hc.2.2]
    split
    · rw [sq_esc]; exact sq_ato_congr s _ _ _ _ f d ih i j
    · exact sq_ato_congr s _ _ _ _ f d ih i j
theorem fnd_ent (s : List UInt8) (nc sho : Bool) (l : List Nat) : fnd s (gAll true nc sho l) = true ↔ ∃ j, sq s (gp l (.ato .fin .one .done)) nc true 0 j := by
  rw [Re.fnd_iff s _ (by exact gp_noBar l _ trivial)]
  constructor
  · rintro ⟨i, j, _, h⟩
    rw [gAll, Re.sq_flg, if_pos rfl, Re.sq_beg, Bool.false_or] at h
    exact ⟨j, h.2⟩
  · rintro ⟨j, h⟩
    refine ⟨0, j, Nat.zero_le _, ?_⟩
    rw [gAll, Re.sq_flg, if_pos rfl, Re.sq_beg, Bool.false_or]
    exact ⟨rfl, h⟩
theorem fnd_part (s : List UInt8) (nc sho : Bool) (l : List Nat) : fnd s (gAll false nc sho l) = true ↔ ∃ i j, i ≤ s.length ∧ sq s (gp l .done) nc true i j := by
  rw [Re.fnd_iff s _ (by exact gp_noBar l _ trivial)]
  constructor
  · rintro ⟨i, j, hi, h⟩
    rw [gAll, Re.sq_flg, Bool.false_or] at h
    exact ⟨i, j, hi, h⟩
  · rintro ⟨i, j, hi, h⟩
    refine ⟨i, j, hi, ?_⟩
    rw [gAll, Re.sq_flg, Bool.false_or]
    exact h
theorem gAll_ok (ent nc sho : Bool) (l : List Nat) (h : ∀ c ∈ l, c < 128) : (gAll ent nc sho l).ok = true ∧ noC (gAll ent nc sho l) = true := by
  cases ent
  · exact ⟨gp_ok l _ h rfl, gp_noC l _ rfl⟩
  · exact ⟨gp_ok l (.ato .fin .one .done) h rfl, gp_noC l (.ato .fin .one .done) rfl⟩
theorem pcW_len (c : Nat) : (pcW c).length ≤ 2 := by unfold pcW; split; simp; split; simp; split <;> simp
theorem flat_len : ∀ l : List Nat, (l.flatMap pcW).length ≤ 2 * l.length
  | [] => by simp
  | c :: l => by
    have h1 := pcW_len c
    have h2 := flat_len l
    simp only [List.flatMap_cons, List.length_append, List.length_cons]
    omega
theorem all_len (ent nc sho : Bool) (l : List Nat) : (Re.pr (gAll ent nc sho l)).length ≤ 2 * l.length + 20 := by
  have h := flat_len l
  cases ent <;> simp only [gAll, Re.pr, pr_gp, Bool.false_eq_true, if_true, if_false] <;> generalize l.flatMap pcW = X at h ⊢ <;> cases nc <;> cases sho <;> simp [Re.prF, Re.prA, Re.prS] <;> omega
theorem bs_lits (l : List Nat) : bs l = l.map UInt8.ofNat := rfl
theorem found_self (ent nc sho : Bool) (l : List Nat) (h : ∀ c ∈ l, litC c) : fnd (bs l) (gAll ent nc sho l) = true := by
  have hl : ∀ c ∈ l, c < 128 := fun c hc => (h c hc).1
  have hlen : (bs l).length = l.length := by simp [bs]
  cases ent
  · rw [fnd_part]
    refine ⟨0, l.length, Nat.zero_le _, (sq_gp _ nc true l _ _ _ h).2 (Re.sq_gl_pos _ nc true l _ _ _ hl (by rw [List.drop_zero, List.take_of_length_le (by simp [bs])]; rfl) ?_)⟩
    rw [Re.sq_done]; omega
  · rw [fnd_ent]
    refine ⟨l.length, (sq_gp _ nc true l _ _ _ h).2 (Re.sq_gl_pos _ nc true l _ _ _ hl (by rw [List.drop_zero, List.take_of_length_le (by simp [bs])]; rfl) ?_)⟩
    rw [Re.sq_fin, Re.sq_done]; omega
theorem found_lits (l : List Nat) (h : ∀ c ∈ l, litC c) : fnd (bs l) (gl l .done) = true := by
  rw [Re.fnd_iff _ _ (Re.gl_noBar l .done trivial)]
  refine ⟨0, l.length, Nat.zero_le _, Re.sq_gl_pos _ false false l _ _ _ (fun c hc => (h c hc).1) (by rw [List.drop_zero, List.take_of_length_le (by simp [bs])]; rfl) ?_⟩
  rw [Re.sq_done]; omega
theorem gl_noC : ∀ (l : List Nat), noC (gl l .done) = true
  | [] => rfl
  | c :: l => by simp [gl, noC, gl_noC l]
theorem gl_noF : ∀ (l : List Nat), noF (gl l .done) = true
  | [] => rfl
  | c :: l => by simp [gl, noF, gl_noF l]
theorem word_lit (c : Nat) (h : Pat.wordI c = true) : litC c ∧ Re.litOk c = true ∧ ∀ md, pcOk md c = true := by
  have hc : c < 128 := by simp [Pat.wordI, Pat.letterI] at h; omega
  have hs : ∀ c, c < 128 → Pat.wordI (c : Nat) = true → c ≠ 42 ∧ c ≠ 63 ∧ c ≠ 91 ∧ c ≠ 92 ∧ 1 ≤ c ∧ Re.litOk c = true := by decide
  obtain ⟨h1, h2, h3, h4, h5, h6⟩ := hs c hc h
  refine ⟨⟨hc, h1, h2⟩, h6, fun md => ?_⟩
  simp [pcOk, hc, h1, h2, h3, h4, h5]
theorem text_reg (md : Md) (hx : md.ext = false) (ent nc sho : Bool) (s : ByteArray) (hw : Pat.wordL s.data.toList = true) :
    ∃ g : G, regexpM md ent nc sho s = .ok (bs (Re.pr g)) ∧ g.ok = true ∧ noC g = true ∧ fnd s.data.toList g = true ∧ (Re.pr g).length ≤ 2 * s.size + 20 := by
  have hc : ∀ c ∈ nums s, litC c ∧ Re.litOk c = true ∧ ∀ md, pcOk md c = true := by
    intro c hc
    obtain ⟨b, hb, rfl⟩ := List.mem_map.1 hc
    exact word_lit _ (List.all_eq_true.1 hw b hb)
  have hn := nums_len s
  by_cases hsc : (ent || nc) = true ∨ shc s (s.size + 1) 0 = true
  · refine ⟨gAll ent nc sho (nums s), reg_plain md hx ent nc sho s (fun c h => (hc c h).2.2 md) hsc, (gAll_ok ent nc sho _ (fun c h => (hc c h).1.1)).1, (gAll_ok ent nc sho _ (fun c h => (hc c h).1.1)).2, ?_, ?_⟩
    · rw [← bs_nums]; exact found_self ent nc sho _ (fun c h => (hc c h).1)
    · rw [← hn]; exact all_len ent nc sho _
  · have hpr : Re.pr (gl (nums s) .done) = nums s := by rw [Re.pr_gl]; simp [Re.pr]
    refine ⟨gl (nums s) .done, ?_, Re.gl_ok _ _ (fun c h => (hc c h).2.1) rfl, gl_noC _, ?_, ?_⟩
    · unfold regexpM
      rw [if_pos (by constructor <;> (rw [Bool.eq_false_iff]; intro e; exact hsc (by simp [e]))), hpr, bs_nums]
    · rw [← bs_nums]; exact found_lits _ (fun c h => (hc c h).1)
    · rw [hpr, hn]; omega
end Go.Proofs.YtpfgmiocdgfniaaGreatFmt
