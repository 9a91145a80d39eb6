/- Joined by pack.py: RdH. -/
import Derived.Test.YtpfgmiocdgfniaaGreatFmtP24
import Derived.LoopN
set_option linter.unusedVariables false
set_option maxHeartbeats 8000000
set_option maxRecDepth 1000000
namespace Go.Proofs.YtpfgmiocdgfniaaGreatFmt
open Go.RowKit
open Re (Fo)
def Hd (r : List UInt8) : Prop := r = [] ∨ ∃ c r', r = UInt8.ofNat c :: r' ∧ c < 128 ∧ c ≠ 42 ∧ c ≠ 43 ∧ c ≠ 63 ∧ c ≠ 123
theorem box_alloc (w : World) (c : Array Value) : ((w.alloc (.cells c tRe)).alloc (.cells reZ tRe)).heap[w.heap.size]? = some (.cells c tRe (0, 0)) ∧ ((w.alloc (.cells c tRe)).alloc (.cells reZ tRe)).heap[w.heap.size + 1]? = some (.cells reZ tRe (0, 0)) := by
  refine ⟨?_, ?_⟩
  · rw [Lib.alloc_old _ _ _ (by simp)]; exact heap_alloc_new w _
  · have := heap_alloc_new (w.alloc (.cells c tRe)) (.cells reZ tRe); simpa using this
structure Tm (rb : Nat) (s : ByteArray) (j : Nat) (c : Array Value) (w V : World) : Prop where
  r : RS rb s j true V
  k : Kp (· = rb) w V
  n : V.heap[w.heap.size]? = some (.cells c tRe (0, 0))
  z : V.heap[w.heap.size + 1]? = some (.cells reZ tRe (0, 0))
  lt : rb < w.heap.size
theorem Tm.start {rb : Nat} {s : ByteArray} {i : Nat} {c : Array Value} {w : World} (h : RS rb s i true w) : Tm rb s i c w ((w.alloc (.cells c tRe)).alloc (.cells reZ tRe)) :=
  ⟨h.kept (((Kp.refl (fun _ => False) w).alloc _).alloc _) id, ((Kp.refl _ w).alloc _).alloc _, (box_alloc w c).1, (box_alloc w c).2, h.cells.2.2.2.2.2⟩
theorem Tm.drew {rb : Nat} {s : ByteArray} {i : Nat} {c : Array Value} {w V : World} (n : Nat) (h : Tm rb s i c w V) : Tm rb s i c w (V.drewN n) := ⟨h.r.drew n, h.k.drewN n, h.n, h.z, h.lt⟩
theorem Tm.call {rb : Nat} {s : ByteArray} {i j : Nat} {c : Array Value} {w V V' : World} (h : Tm rb s i c w V) (hr : RS rb s j true V') (k : Kp (· = rb) V V') : Tm rb s j c w V' :=
  ⟨hr, h.k.trans k, k.heap (by have := h.lt; show ¬ w.heap.size = rb; omega) h.n, k.heap (by have := h.lt; show ¬ w.heap.size + 1 = rb; omega) h.z, h.lt⟩
theorem Tm.done {rb : Nat} {s : ByteArray} {j : Nat} {c : Array Value} {w V : World} {tmps : Array Value} {Post : Ending → World → Prop} (h : Tm rb s j c w V) (hc : c.size = 132) (hp : tmps.getD 4 undef = .pointer (some ⟨w.heap.size + 1, 0, none⟩))
    (hP : ∀ w', RS rb s j true w' → Kp (· = rb) w w' → Kp (fun g => w.heap.size + 1 = g) V w' → Post (.returned (.agg c)) w') :
    bodyPost Tryz.prog Tryz.f33 Post .ret ⟨tmps, []⟩ (V.setRow (w.heap.size + 1) c) := by
  have hlt := h.lt
  refine bodyPost_ret (v := .agg c) (resultRe Tryz.results33 _ _ (w.heap.size + 1) _ hp (setRow_heap _ _ reZ _ tRe (0, 0) h.z) hc) rfl (hP _ ?_ (h.k.setRow (.inr (by omega)) _) ((Kp.refl _ V).setRow (.inl rfl) _))
  unfold RS
  rw [setRow_other _ _ _ _ (by omega)]
  exact h.r
theorem times_one (rb : Nat) (s : ByteArray) (i : Nat) (r : List UInt8) (c : Array Value) (w : World) (h : RS rb s i true w) (hs : s.size ≤ 4611686018427387904) (hr : Rm s i r) (hd : Hd r) (hc : c.size = 132) (h1 : oneC c.toList) :
    Calls Tryz.prog 33 #[.pointer (some ⟨rb, 0, none⟩), .agg c] w fun e w' => e = .returned (.agg c) ∧ RS rb s i true w' ∧ Kp (· = rb) w w' := by
  have hz := zeroRe
  have hsz := hr.size
  have HT := Lib.hid (Tm.start (c := c) h)
  obtain ⟨V, hV⟩ : ∃ V, (w.alloc (.cells c tRe)).alloc (.cells reZ tRe) = V := ⟨_, rfl⟩
  rw [hV] at HT
  have HVe := Lib.hid hV
  have HC := Lib.hid hc
  have H1 := Lib.hid h1
  rcases hd with rfl | ⟨d, r', rfl, hd1, h42, h43, h63, h123⟩
  · have hm : decide ((i : Int) < (s.size : Int)) = false := by simp at hsz ⊢; omega
    have HM := Lib.hid (more_any rb s i true)
    rw [hm] at HM
    clear hr hsz hc h1 hm h hV
    go_enter Tryz.func33, Tryz.ntmps33
    go_wp2
    refine wp_loop_rounds 1 ?_
    rw [rounds_succ]
    go_wp2_with fail
    rw [HVe.out]
    refine (HM.out _ HT.out.r).mono ?_
    rintro e w1 ⟨rfl, n, rfl⟩
    go_wp2_with fail
    refine wp_load_row tRe _ rfl w.heap.size rfl tRe c (0, 0) _ (HT.out.drew _).n Tryz.underlying31 rfl (by rw [sizeRe, HC.out]) ?_
    go_wp2
    rw [storeRe _ (w.heap.size + 1) reZ _ (HT.out.drew _).z rfl (by rw [Array.length_toList, HC.out]) H1.out]
    go_wp2
    exact Tm.done (HT.out.drew _) HC.out rfl (fun w' a b _ => ⟨rfl, a, b⟩)
  · have hm : decide ((i : Int) < (s.size : Int)) = true := by simp at hsz ⊢; omega
    have HM := Lib.hid (more_any rb s i true)
    rw [hm] at HM
    have P42 := Lib.hid (pre_no (l := []) (r := r') (of_ne (n := 42) hd1 (by omega) h42))
    have P43 := Lib.hid (pre_no (l := []) (r := r') (of_ne (n := 43) hd1 (by omega) h43))
    have P63 := Lib.hid (pre_no (l := []) (r := r') (of_ne (n := 63) hd1 (by omega) h63))
    have P123 := Lib.hid (pre_no (l := []) (r := r') (of_ne (n := 123) hd1 (by omega) h123))
    obtain ⟨v0, v1, v2, _, _, _⟩ := HT.out.r.cells
    have HR := Lib.hid hr
    clear hr hsz hc h1 hm h hV
    go_enter Tryz.func33, Tryz.ntmps33
    go_wp2
    refine wp_loop_rounds 1 ?_
    rw [rounds_succ]
    go_wp2_with fail
    rw [HVe.out]
    refine (HM.out _ HT.out.r).mono ?_
    rintro e w1 ⟨rfl, n, rfl⟩
    go_wp2_with (go_at_call 32; refine (skip_f rb s _ i true _ _ (by exact HT.out.r.drew _) hs (by decide) HR.out (by first | exact P42.out | exact P43.out | exact P63.out | exact P123.out)).mono ?_; rintro e w' ⟨rfl, m, rfl⟩)
    refine wp_load_row tRe _ rfl w.heap.size rfl tRe c (0, 0) _ (HT.out.drew _).n Tryz.underlying31 rfl (by rw [sizeRe, HC.out]) ?_
    go_wp2
    rw [storeRe _ (w.heap.size + 1) reZ _ (HT.out.drew _).z rfl (by rw [Array.length_toList, HC.out]) H1.out]
    go_wp2
    exact Tm.done (HT.out.drew _) HC.out rfl (fun w' a b _ => ⟨rfl, a, b⟩)
end Go.Proofs.YtpfgmiocdgfniaaGreatFmt
