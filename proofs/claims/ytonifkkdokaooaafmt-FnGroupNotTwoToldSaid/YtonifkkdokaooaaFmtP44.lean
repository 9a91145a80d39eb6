/- Joined by pack.py: FlA. -/
import Derived.Test.YtonifkkdokaooaaFmtP10
/- Walks: flags alone in brackets. -/
namespace Go.Proofs.YtonifkkdokaooaaFmt
open Go.RowKit
open Re (Fo G Su Ato)
set_option linter.unusedVariables false

/-- the letters of flags -/
def fLs (fi fu : Bool) : List Nat := 115 :: ((if fi then [105] else []) ++ (if fu then [85] else []))
theorem prF_eq (fi fu : Bool) : Re.prF fi fu = 40 :: 63 :: (fLs fi fu ++ [41]) := by cases fi <;> cases fu <;> rfl
theorem fLs_mem (fi fu : Bool) : ∀ c ∈ fLs fi fu, c = 115 ∨ c = 105 ∨ c = 85 := by cases fi <;> cases fu <;> decide
theorem fLs_i (fold fi fu : Bool) : (fold || (fLs fi fu).contains 105) = (fold || fi) := by cases fold <;> cases fi <;> cases fu <;> rfl
theorem fLs_s (dot fi fu : Bool) : (dot || (fLs fi fu).contains 115) = true := by cases dot <;> cases fi <;> cases fu <;> rfl
/-- in the loop over the letters -/
structure FL (rb zb : Nat) (s : ByteArray) (j : Nat) (f d : Bool) (W V : World) : Prop where
  r : RS rb s j true V
  f : FS (zb + 1) f d V
  z : V.heap[zb]? = some (.cells reZ tRe (0, 0))
  k : Kp (fun x => x = rb ∨ x = zb + 1) W V
theorem FL.drewN {rb zb : Nat} {s : ByteArray} {j : Nat} {f d : Bool} {W V : World} (h : FL rb zb s j f d W V) (n : Nat) : FL rb zb s j f d W (V.drewN n) := ⟨h.r.drew n, h.f, h.z, h.k.drewN n⟩
theorem FL.up {rb zb : Nat} {s : ByteArray} {j : Nat} {f d : Bool} {W V : World} (h : FL rb zb s j f d W V) : FL rb zb s (j + 1) f d W (V.setCell ⟨rb, 1, none⟩ (.int .i64 ((j : Int) + 1))) := by
  have hne : rb ≠ zb + 1 := blk_ne h.r h.f (by decide)
  have hne2 : rb ≠ zb := blk_ne h.r h.z (by decide)
  have k : Kp (· = rb) V (V.setCell ⟨rb, 1, none⟩ (.int .i64 ((j : Int) + 1))) := Kp.setCell (X := (· = rb)) (p := ⟨rb, 1, none⟩) (Kp.refl _ V) (.inl rfl) _
  exact ⟨h.r.set (j := j + 1), k.heap (by show ¬ zb + 1 = rb; omega) h.f, k.heap (by show ¬ zb = rb; omega) h.z, h.k.trans (k.mono (fun x _ e => .inl e))⟩
theorem FL.setd {rb zb : Nat} {s : ByteArray} {j : Nat} {f d : Bool} {W V : World} (h : FL rb zb s j f d W V) : FL rb zb s j f true W (V.setCell ⟨zb + 1, 1, none⟩ (.bool true)) := by
  have hne : rb ≠ zb + 1 := blk_ne h.r h.f (by decide)
  have k : Kp (· = zb + 1) V (V.setCell ⟨zb + 1, 1, none⟩ (.bool true)) := Kp.setCell (X := (· = zb + 1)) (p := ⟨zb + 1, 1, none⟩) (Kp.refl _ V) (.inl rfl) _
  refine ⟨k.heap (by show ¬ rb = zb + 1; omega) h.r, ?_, k.heap (by show ¬ zb = zb + 1; omega) h.z, h.k.trans (k.mono (fun x _ e => .inr e))⟩
  have h2 := h.f
  unfold FS at h2 ⊢
  simp [World.setCell, Array.getElem?_modify, h2]
theorem FL.setf {rb zb : Nat} {s : ByteArray} {j : Nat} {f d : Bool} {W V : World} (h : FL rb zb s j f d W V) : FL rb zb s j true d W (V.setCell ⟨zb + 1, 0, none⟩ (.bool true)) := by
  have hne : rb ≠ zb + 1 := blk_ne h.r h.f (by decide)
  have k : Kp (· = zb + 1) V (V.setCell ⟨zb + 1, 0, none⟩ (.bool true)) := Kp.setCell (X := (· = zb + 1)) (p := ⟨zb + 1, 0, none⟩) (Kp.refl _ V) (.inl rfl) _
  refine ⟨k.heap (by show ¬ rb = zb + 1; omega) h.r, ?_, k.heap (by show ¬ zb = zb + 1; omega) h.z, h.k.trans (k.mono (fun x _ e => .inr e))⟩
  have h2 := h.f
  unfold FS at h2 ⊢
  simp [World.setCell, Array.getElem?_modify, h2]
set_option maxHeartbeats 4000000 in
set_option maxRecDepth 100000 in
theorem group_flg (rb fb : Nat) (s : ByteArray) (i : Nat) (fi fu : Bool) (l : List UInt8) (fold dot : Bool) (w : World) (hr : RS rb s i true w) (hf : FS fb fold dot w) (hs : s.size ≤ 274877906944) (hm : Rm s i (UInt8.ofNat 63 :: (bs (fLs fi fu) ++ (UInt8.ofNat 41 :: l)))) :
    Calls Tryf.prog 57 #[.pointer (some ⟨rb, 0, none⟩), .pointer (some ⟨fb, 0, none⟩)] w (AmPost rb fb s (i + 1 + (fLs fi fu).length + 1) (fold || fi) true 2 Re.no128 .nil w) := by
  have hz := zeroRe
  obtain ⟨f0, f1, hfl⟩ := hf.cells
  have hrl : rb < w.heap.size := hr.cells.2.2.2.2.2
  have hne : fb ≠ rb := blk_ne hf hr (by decide)
  have HR := Lib.hid hr
  have HM := Lib.hid hm
  have HF := Lib.hid hf
  clear hr hm hf
  go_enter Tryf.func57, Tryf.ntmps57
  go_wp2_with fail
  obtain ⟨W, hW⟩ : ∃ W, (w.alloc (.cells reZ tRe)).alloc (.cells #[.bool fold, .bool dot] tFl) = W := ⟨_, rfl⟩
  have hWs : W.heap.size = w.heap.size + 1 + 1 := by rw [← hW]; simp
  have kW : Kp (fun _ => False) w W := by rw [← hW]; exact ((Kp.refl _ _).alloc _).alloc _
  have z0 : W.heap[w.heap.size]? = some (.cells reZ tRe (0, 0)) := by
    rw [← hW, Lib.alloc_old _ _ _ (by simp)]; exact heap_alloc_new w _
  have fl0 : FS (w.heap.size + 1) fold dot W := by
    unfold FS
    rw [← hW]; have := heap_alloc_new (w.alloc (.cells reZ tRe)) (.cells #[.bool fold, .bool dot] tFl); simpa using this
  have hrw : RS rb s i true W := HR.out.kept kW id
  rw [hW]
  refine (skip_t rb s ⟨#[63]⟩ i true W _ hrw (by omega) HM.out).mono ?_
  rintro e w1 ⟨rfl, hr1, hk1⟩
  have H1 : Hid (FL rb w.heap.size s (i + 1) fold dot W w1) := Lib.hid ⟨hr1, hk1.heap (by show ¬ w.heap.size + 1 = rb; omega) fl0, hk1.heap (by show ¬ w.heap.size = rb; omega) z0, hk1.mono (fun x _ h => .inl h)⟩
  have KW := Lib.hid kW
  clear hW fl0 f0 f1 z0 hr1 hk1 kW hrw
  go_wp2_with fail
  go_loopg [6] (fLs fi fu).length (fun g s6 wx => s6 = .bool true ∧ ∃ (ls : List Nat) (j : Nat) (f d : Bool), ls.length = g ∧ (∀ c ∈ ls, c = 115 ∨ c = 105 ∨ c = 85) ∧ Rm s j (bs ls ++ (UInt8.ofNat 41 :: l)) ∧ FL rb w.heap.size s j f d W wx ∧ (f || ls.contains 105) = (fold || fi) ∧ (d || ls.contains 115) = true ∧ j + ls.length = i + 1 + (fLs fi fu).length)
  case atStart => exact ⟨rfl, fLs fi fu, i + 1, fold, dot, rfl, fLs_mem fi fu, HM.out.tail, H1.out, fLs_i fold fi fu, fLs_s dot fi fu, rfl⟩
  case round =>
    obtain ⟨rfl, ls, j, f, d, hg, hls, hrm, hFL, hf', hd', hj⟩ := hrel
    have HFL := Lib.hid hFL
    obtain ⟨c0, c1, c2, q4, q5, _⟩ := hFL.r.cells
    obtain ⟨fc0, fc1, _⟩ := hFL.f.cells
    obtain ⟨hji, hat⟩ : ∃ hi : j < s.size, s[j] = UInt8.ofNat ((ls ++ [41]).headD 0) := by
      cases ls with
      | nil => exact hrm.at
      | cons a r => exact hrm.at
    have hlt : decide ((j : Int) < (s.size : Int)) = true := by simp; omega
    have HMO : Hid (∀ w, RS rb s j true w → Calls Tryf.prog 34 #[.pointer (some ⟨rb, 0, none⟩)] w fun e w' => e = .returned (.bool true) ∧ ∃ n, w' = w.drewN n) := Lib.hid fun w h => by
      have := more_any rb s j true w h
      rw [hlt] at this
      exact this
    clear hlt
    cases ls with
    | nil =>
      obtain rfl : gk = 0 := by simp at hg; omega
      have hsi : (((s[j]'hji).toNat : Nat) : Int) = 41 := by rw [hat]; rfl
      go_wp2
      go_quiet ((go_at_call 34; refine (HMO.out _ (HFL.out.r.drew _)).mono ?_; rintro e w' ⟨h1, n, h2⟩; exact ⟨h1, _, by rw [h2, World.drewN_drewN]⟩))
      go_wp2_with fail
      have hf0 : f = (fold || fi) := by rw [← hf']; simp
      have hd0 : d = true := by rw [← hd']; simp
      subst hd0
      have hrm' : Rm s j (UInt8.ofNat 41 :: l) := hrm
      clear c0 c1 c2 q4 q5 fc0 fc1 hsi hat hrm hls hf' hd' hFL
      refine (skip_t rb s ⟨#[41]⟩ j true (wr.drewN nq) l (HFL.out.r.drew nq) (by omega) hrm').mono ?_
      rintro e w2 ⟨rfl, hr2, hk2⟩
      have hz2 : w2.heap[w.heap.size]? = some (.cells reZ tRe (0, 0)) := hk2.heap (by show ¬ w.heap.size = rb; omega) HFL.out.z
      have hf2 : FS (w.heap.size + 1) f true w2 := hk2.heap (by show ¬ w.heap.size + 1 = rb; omega) HFL.out.f
      have hkW : Kp (fun x => x = rb ∨ x = w.heap.size + 1) W w2 := (HFL.out.k.drewN nq).trans (hk2.mono (fun x _ h => .inl h))
      have hfb : FS fb fold dot w2 := (hkW.heap (by show ¬ (fb = rb ∨ fb = w.heap.size + 1); omega) (KW.out.heap id HF.out))
      obtain ⟨f0, f1, _⟩ := hf2.cells
      obtain ⟨f2, f3, _⟩ := hfb.cells
      have f4 : w2.frozen? ⟨fb, 0, none⟩ = false := Lib.frozen_of_heap hfb 0
      have f5 : w2.frozen? ⟨fb, 1, none⟩ = false := Lib.frozen_of_heap hfb 1
      have HZ2 := Lib.hid hz2
      have HF2 := Lib.hid hf2
      have HFB := Lib.hid hfb
      have HKW := Lib.hid hkW
      have HR2 := Lib.hid hr2
      clear hz2 hf2 hkW hfb hr2 hk2
      go_wp2_with fail
      clear f0 f1 f2 f3 f4 f5
      obtain ⟨W3, hW3⟩ : ∃ W3, (w2.setCell ⟨fb, 0, none⟩ (.bool (fold || fi))).setCell ⟨fb, 1, none⟩ (.bool true) = W3 := ⟨_, rfl⟩
      have k3 : Kp (· = fb) w2 W3 := by
        rw [← hW3]; exact Kp.setCell (X := (· = fb)) (p := ⟨fb, 1, none⟩) (Kp.setCell (X := (· = fb)) (p := ⟨fb, 0, none⟩) (Kp.refl _ w2) (.inl rfl) _) (.inl rfl) _
      have f3 : FS fb (fold || fi) true W3 := by
        have h := HFB.out
        unfold FS at h ⊢
        rw [← hW3]
        simp [World.setCell, Array.getElem?_modify, h]
      have z3 : W3.heap[w.heap.size]? = some (.cells reZ tRe (0, 0)) := k3.heap (by show ¬ w.heap.size = fb; omega) HZ2.out
      have r3 : RS rb s (j + 1) true W3 := k3.heap (by show ¬ rb = fb; omega) HR2.out
      have kall : Kp (XR rb fb) w W3 := by
        refine Kp.trans (b := w2) ((KW.out.false_mono.trans HKW.out : Kp (fun x => x = rb ∨ x = w.heap.size + 1) w w2).mono (fun x hx h => ?_)) (k3.mono (fun x _ h => .inr h))
        rcases h with h | h
        · exact .inl h
        · omega
      rw [hW3]
      clear hW3
      rw [storeRe W3 w.heap.size reZ (reZ.toList.set 0 (.int .i64 2)) z3 rfl rfl (oneC_set2 2), reZ_set]
      have F3 := Lib.hid f3
      have Z3 := Lib.hid z3
      have R3 := Lib.hid r3
      have KA := Lib.hid kall
      clear f3 z3 r3 kall k3
      go_wp2
      have kz : Kp (fun x => x = w.heap.size) W3 (W3.setRow w.heap.size (reC 2 noV (.slice none 0 0) 0 0)) := Kp.setRow (X := fun x => x = w.heap.size) (g := w.heap.size) (Kp.refl _ W3) (.inl rfl) _
      refine bodyPost_ret (v := .agg (reC 2 noV (.slice none 0 0) 0 0)) (resultRe Tryf.results57 _ _ w.heap.size _ rfl (setRow_heap _ _ reZ _ tRe (0, 0) Z3.out) rfl) rfl ⟨_, rfl, ?_, ?_, ?_, ?_⟩
      · have e : noV = Re.no128.map Value.bool := by simp [noV, Re.falses]
        rw [e]
        exact Nd.one (by simp [Re.falses])
      · have hj0 : j + 1 = i + 1 + (fLs fi fu).length + 1 := by simp at hj; omega
        rw [← hj0]
        exact R3.out.kept kz (by show ¬ rb = w.heap.size; omega)
      · exact kz.heap (by show ¬ fb = w.heap.size; omega) F3.out
      · exact KA.out.setRow (.inr (Nat.le_refl _)) _
    | cons a r =>
      obtain ⟨g, rfl⟩ : ∃ g, gk = g + 1 := ⟨r.length, by simp at hg; omega⟩
      have hrt : Rm s (j + 1) (bs r ++ (UInt8.ofNat 41 :: l)) := hrm.tail
      have hsi : (((s[j]'hji).toNat : Nat) : Int) = ((UInt8.ofNat a).toNat : Nat) := by rw [hat]; rfl
      have q6 : wr.frozen? ⟨w.heap.size + 1, 0, none⟩ = false := Lib.frozen_of_heap hFL.f 0
      have q7 : wr.frozen? ⟨w.heap.size + 1, 1, none⟩ = false := Lib.frozen_of_heap hFL.f 1
      have hjs : (j : Int) < (s.size : Int) := by omega
      have ha := hls a (by simp)
      clear hat hFL hrm
      rcases ha with rfl | rfl | rfl
      · have hsi' : (((s[j]'hji).toNat : Nat) : Int) = 115 := hsi
        clear hsi
        go_wp2
        go_quiet ((go_at_call 34; refine (HMO.out _ (HFL.out.r.drew _)).mono ?_; rintro e w' ⟨h1, n, h2⟩; exact ⟨h1, _, by rw [h2, World.drewN_drewN]⟩))
        go_wp2
        go_quiet (fail)
        go_wp2
        go_roundg g
        case measure => omega
        case rel => exact ⟨rfl, r, j + 1, f, true, by simpa using hg, fun c hc => hls c (by simp [hc]), hrt, (HFL.out.drewN _).setd.up, by rw [← hf']; simp, by rw [← hd']; simp, by simp at hj; omega⟩
      · have hsi' : (((s[j]'hji).toNat : Nat) : Int) = 105 := hsi
        clear hsi
        go_wp2
        go_quiet ((go_at_call 34; refine (HMO.out _ (HFL.out.r.drew _)).mono ?_; rintro e w' ⟨h1, n, h2⟩; exact ⟨h1, _, by rw [h2, World.drewN_drewN]⟩))
        go_wp2
        go_quiet (fail)
        go_wp2
        go_roundg g
        case measure => omega
        case rel => exact ⟨rfl, r, j + 1, true, d, by simpa using hg, fun c hc => hls c (by simp [hc]), hrt, (HFL.out.drewN _).setf.up, by rw [← hf']; simp, by rw [← hd']; simp, by simp at hj; omega⟩
      · have hsi' : (((s[j]'hji).toNat : Nat) : Int) = 85 := hsi
        clear hsi
        go_wp2
        go_quiet ((go_at_call 34; refine (HMO.out _ (HFL.out.r.drew _)).mono ?_; rintro e w' ⟨h1, n, h2⟩; exact ⟨h1, _, by rw [h2, World.drewN_drewN]⟩))
        go_wp2
        go_quiet (fail)
        go_wp2
        go_roundg g
        case measure => omega
        case rel => exact ⟨rfl, r, j + 1, f, d, by simpa using hg, fun c hc => hls c (by simp [hc]), hrt, (HFL.out.drewN _).up, by rw [← hf']; simp, by rw [← hd']; simp, by simp at hj; omega⟩
/-- the flags' contract of atom -/
theorem flg_ok : FlgOK := by
  intro rb fb s i fi fu r fold dot w hr hf hs hm
  have e : bs (Re.prF fi fu) ++ r = UInt8.ofNat 40 :: (UInt8.ofNat 63 :: (bs (fLs fi fu) ++ (UInt8.ofNat 41 :: r))) := by
    rw [prF_eq]; simp [bs]
  rw [e] at hm
  have el : i + (Re.prF fi fu).length = i + 1 + 1 + (fLs fi fu).length + 1 := by rw [prF_eq]; simp; omega
  rw [el]
  exact atom_par rb fb s i _ _ fold dot (fold || fi) true 2 Re.no128 .nil w hr hf (by omega) hm (fun V _ hr hfV => group_flg rb fb s (i + 1) fi fu r fold dot V hr hfV hs hm.tail)
end Go.Proofs.YtonifkkdokaooaaFmt
