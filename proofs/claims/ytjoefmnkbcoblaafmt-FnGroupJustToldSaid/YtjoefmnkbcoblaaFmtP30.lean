/- Joined by pack.py: RdI, RdQ. -/
import Derived.Test.YtjoefmnkbcoblaaFmtP28
import Derived.Test.YtjoefmnkbcoblaaFmtP29
import Derived.Deep.Cut
/- Walks: times, at a sign of how often. -/
namespace Go.Proofs.YtjoefmnkbcoblaaFmt
open Go.RowKit
open Re (Fo)
set_option linter.unusedVariables false

set_option maxRecDepth 100000 in
theorem reT_eq (kv : Value) (l m : Int) : ((((reZ.toList.set 0 (.int .i64 4)).set 129 kv).set 130 (.int .i64 l)).set 131 (.int .i64 m)).toArray = reC 4 noV kv l m := rfl
set_option maxRecDepth 100000 in
theorem oneC_reT (kv : Value) (h : kv.oneCell' = true) (l m : Int) : oneC ((((reZ.toList.set 0 (.int .i64 4)).set 129 kv).set 130 (.int .i64 l)).set 131 (.int .i64 m)) := oneC_reC (k := 4) (kv := kv) (l := l) (m := m) oneC_no h
theorem Tm.quant {rb : Nat} {s : ByteArray} {j : Nat} {c : Array Value} {w V : World} (h : Tm rb s j c w V) {c' : Array Value} : Tm rb s j c' w ((V.alloc (.cells c tRe)).setRow w.heap.size c') := by
  have hlt := h.lt
  have h1 := (Array.getElem?_eq_some_iff.1 h.n).1
  have h2 := (Array.getElem?_eq_some_iff.1 h.z).1
  have hnc : (V.alloc (.cells c tRe)).heap[w.heap.size]? = some (.cells c tRe (0, 0)) := by rw [Lib.alloc_old _ _ _ h1]; exact h.n
  refine ⟨?_, (h.k.alloc _).setRow (.inr (Nat.le_refl _)) _, setRow_heap _ _ _ _ _ _ hnc, ?_, hlt⟩
  · unfold RS
    rw [setRow_other _ _ _ _ (by omega)]
    exact h.r.kept ((Kp.refl (fun _ => False) V).alloc _) id
  · rw [setRow_other _ _ _ _ (by omega), Lib.alloc_old _ _ _ h2]; exact h.z
theorem Tm.row {rb : Nat} {s : ByteArray} {j : Nat} {c : Array Value} {w V : World} (h : Tm rb s j c w V) {c' : Array Value} : ((V.alloc (.cells c tRe)).setRow w.heap.size c').heap[V.heap.size]? = some (.cells c tRe (0, 0)) ∧ w.heap.size + 2 ≤ V.heap.size := by
  have h1 := (Array.getElem?_eq_some_iff.1 h.n).1
  have h2 := (Array.getElem?_eq_some_iff.1 h.z).1
  exact ⟨by rw [setRow_other _ _ _ _ (by omega)]; exact heap_alloc_new V _, by omega⟩
/-- what times leaves at a sign -/
def TqPost (rb : Nat) (s : ByteArray) (j : Nat) (c : Array Value) (l m : Int) (w : World) (e : Ending) (w' : World) : Prop :=
  ∃ g, e = .returned (.agg (reC 4 noV (.slice (some ⟨g, 0, none⟩) 1 1) l m)) ∧ w.heap.size ≤ g ∧ w'.heap[g]? = some (.cells c tRe (0, 0)) ∧ RS rb s j true w' ∧ Kp (· = rb) w w'
theorem Hd.no63 {r : List UInt8} (h : Hd r) : List.isPrefixOf [UInt8.ofNat 63] r = false := by
  rcases h with rfl | ⟨d, r', rfl, hd1, _, _, h63, _⟩
  · rfl
  · exact pre_no (l := []) (r := r') (of_ne (n := 63) hd1 (by omega) h63)
set_option maxHeartbeats 4000000 in
set_option maxRecDepth 100000 in
theorem times_star (rb : Nat) (s : ByteArray) (i : Nat) (r : List UInt8) (c : Array Value) (w : World) (h : RS rb s i true w) (hs : s.size ≤ 4611686018427387904) (hr : Rm s i (UInt8.ofNat 42 :: r)) (hd : Hd r) (hc : c.size = 132) (h1 : oneC c.toList) :
    Calls Tryf.prog 35 #[.pointer (some ⟨rb, 0, none⟩), .agg c] w (TqPost rb s (i + 1) c 0 (-1) w) := by
  have hz := zeroRe
  have hsz := hr.size
  have hsz2 := hr.tail.size
  have HT := Lib.hid (Tm.start (c := c) h)
  obtain ⟨V, hV⟩ : ∃ V, (w.alloc (.cells c tRe)).alloc (.cells reZ tRe) = V := ⟨_, rfl⟩
  rw [hV] at HT
  have HVe := Lib.hid hV
  have HC := Lib.hid hc
  have H1 := Lib.hid h1
  have hm : decide ((i : Int) < (s.size : Int)) = true := by simp at hsz ⊢; omega
  have HM := Lib.hid (more_any rb s i true)
  rw [hm] at HM
  have HR := Lib.hid hr
  have HR2 := Lib.hid hr.tail
  have N63 := Lib.hid hd.no63
  have HD := Lib.hid hd
  obtain ⟨v0, v1, v2, _, _, _⟩ := HT.out.r.cells
  clear hr hc h1 hm h hV hd
  go_enter Tryf.func35, Tryf.ntmps35
  go_wp2
  refine wp_loop_rounds 2 ?_
  rw [rounds_succ]
  go_wp2_with fail
  rw [HVe.out]
  refine (HM.out _ HT.out.r).mono ?_
  rintro e w1 ⟨rfl, n, rfl⟩
  go_wp2_with fail
  refine (skip_t rb s ⟨#[42]⟩ i true _ _ (HT.out.r.drew _) hs HR.out).mono ?_
  rintro e w1 ⟨rfl, hr1, hk1⟩
  have HT1 : Hid (Tm rb s (i + 1) c w w1) := Lib.hid ((HT.out.drew _).call hr1 hk1)
  clear hr1 hk1
  go_wp2_with fail
  refine (skip_f rb s _ (i + 1) true _ _ HT1.out.r hs (by decide) HR2.out N63.out).mono ?_
  rintro e w2 ⟨rfl, n2, rfl⟩
  have HT2 : Hid (Tm rb s (i + 1) c w (w1.drewN n2)) := Lib.hid (HT1.out.drew n2)
  obtain ⟨V2, hV2⟩ : ∃ V2, w1.drewN n2 = V2 := ⟨_, rfl⟩
  rw [hV2] at HT2
  rw [hV2]
  clear hV2
  go_upto_region 23 with fail
  refine wp_region_list ?_
  refine wpList_load_row rfl tRe _ rfl w.heap.size rfl tRe c (0, 0) _ HT2.out.n Tryf.underlying32 rfl (by rw [sizeRe, HC.out]) ?_
  refine wpList_plain rfl fun K2 hK2 => ?_
  refine wp_bs _ _ _ _ _ _ _ _ _ _ c rfl HC.out ?_
  refine hK2 _ _ ?_
  clear hK2
  go_wp2
  have hb2 : Below V2.heap.size V2 (V2.alloc (.cells c tRe)) := (Below.refl _ _).alloc (Nat.le_refl _) _
  have hnc : (V2.alloc (.cells c tRe)).heap[w.heap.size]? = some (.cells c tRe (0, 0)) := by rw [Lib.alloc_old _ _ _ (Array.getElem?_eq_some_iff.1 HT2.out.n).1]; exact HT2.out.n
  rw [storeRe _ w.heap.size c ((((reZ.toList.set 0 (.int .i64 4)).set 129 (.slice (some ⟨V2.heap.size, 0, none⟩) 1 1)).set 130 (.int .i64 0)).set 131 (.int .i64 (-1))) hnc HC.out rfl (oneC_reT _ rfl _ _), reT_eq]
  obtain ⟨V3, hV3⟩ : ∃ V3, (V2.alloc (.cells c tRe)).setRow w.heap.size (reC 4 noV (.slice (some ⟨V2.heap.size, 0, none⟩) 1 1) 0 (-1)) = V3 := ⟨_, rfl⟩
  have HT3 : Hid (Tm rb s (i + 1) (reC 4 noV (.slice (some ⟨V2.heap.size, 0, none⟩) 1 1) 0 (-1)) w V3) := Lib.hid (by rw [← hV3]; exact HT2.out.quant)
  have hg3 : Hid (V3.heap[V2.heap.size]? = some (.cells c tRe (0, 0)) ∧ w.heap.size + 2 ≤ V2.heap.size) := Lib.hid (by rw [← hV3]; exact HT2.out.row)
  rw [hV3]
  have HC3 : Hid ((reC 4 noV (.slice (some ⟨V2.heap.size, 0, none⟩) 1 1) 0 (-1)).size = 132) := Lib.hid rfl
  have H13 : Hid (oneC (reC 4 noV (.slice (some ⟨V2.heap.size, 0, none⟩) 1 1) 0 (-1)).toList) := Lib.hid (oneC_reC oneC_no rfl)
  obtain ⟨g, hg⟩ : ∃ g, V2.heap.size = g := ⟨_, rfl⟩
  rw [hg] at HT3 hg3 HC3 H13
  obtain ⟨c3, hc3⟩ : ∃ c3, reC 4 noV (.slice (some ⟨g, 0, none⟩) 1 1) 0 (-1) = c3 := ⟨_, rfl⟩
  rw [hc3] at HT3 HC3 H13
  have hc3' := Lib.hid hc3
  clear hV3 hb2 hnc hc3 v0 v1 v2
  have HM2 := Lib.hid (more_any rb s (i + 1) true)
  clear hg
  go_wp2_with fail
  rw [rounds_succ]
  go_wp2_with fail
  rcases HD.out with rfl | ⟨d, r', rfl, hd1, h42, h43, h63, h123⟩
  · have hm : decide (((i + 1 : Nat) : Int) < (s.size : Int)) = false := by simp at hsz2 ⊢; omega
    rw [hm] at HM2
    clear hm hsz hsz2
    refine (HM2.out _ HT3.out.r).mono ?_
    rintro e w4 ⟨rfl, n4, rfl⟩
    go_upto_region 24 with fail
    refine wp_region_list ?_
    refine wpList_load_row rfl tRe _ rfl w.heap.size rfl tRe c3 (0, 0) _ (HT3.out.drew _).n Tryf.underlying32 rfl (by rw [sizeRe, HC3.out]) ?_
    go_wp2
    rw [storeRe _ (w.heap.size + 1) reZ _ (HT3.out.drew _).z rfl (by rw [Array.length_toList, HC3.out]) H13.out]
    go_wp2
    exact Tm.done (HT3.out.drew _) HC3.out rfl (fun w' a b kk => ⟨g, by rw [hc3'.out], by have := hg3.out.2; omega, kk.heap (by have := hg3.out.2; show ¬ _ = g; omega) hg3.out.1, a, b⟩)
  · have hm : decide (((i + 1 : Nat) : Int) < (s.size : Int)) = true := by simp at hsz2 ⊢; omega
    rw [hm] at HM2
    have Q42 := Lib.hid (pre_no (l := []) (r := r') (of_ne (n := 42) hd1 (by omega) h42))
    have Q43 := Lib.hid (pre_no (l := []) (r := r') (of_ne (n := 43) hd1 (by omega) h43))
    have Q63 := Lib.hid (pre_no (l := []) (r := r') (of_ne (n := 63) hd1 (by omega) h63))
    have Q123 := Lib.hid (pre_no (l := []) (r := r') (of_ne (n := 123) hd1 (by omega) h123))
    obtain ⟨x0, x1, x2, _, _, _⟩ := HT3.out.r.cells
    clear hm hsz hsz2
    refine (HM2.out _ HT3.out.r).mono ?_
    rintro e w4 ⟨rfl, n4, rfl⟩
    go_upto_region 6 with (go_at_call 34; refine (skip_f rb s _ (i + 1) true _ _ (by exact HT3.out.r.drew _) hs (by decide) HR2.out (by first | exact Q42.out | exact Q43.out | exact Q63.out | exact Q123.out)).mono ?_; rintro e w' ⟨rfl, m, rfl⟩)
    refine wp_region_list ?_
    refine wpList_load_row rfl tRe _ rfl w.heap.size rfl tRe c3 (0, 0) _ (HT3.out.drew _).n Tryf.underlying32 rfl (by rw [sizeRe, HC3.out]) ?_
    go_wp2
    rw [storeRe _ (w.heap.size + 1) reZ _ (HT3.out.drew _).z rfl (by rw [Array.length_toList, HC3.out]) H13.out]
    go_wp2
    exact Tm.done (HT3.out.drew _) HC3.out rfl (fun w' a b kk => ⟨g, by rw [hc3'.out], by have := hg3.out.2; omega, kk.heap (by have := hg3.out.2; show ¬ _ = g; omega) hg3.out.1, a, b⟩)
set_option maxHeartbeats 4000000 in
set_option maxRecDepth 100000 in
theorem times_plus (rb : Nat) (s : ByteArray) (i : Nat) (r : List UInt8) (c : Array Value) (w : World) (h : RS rb s i true w) (hs : s.size ≤ 4611686018427387904) (hr : Rm s i (UInt8.ofNat 43 :: r)) (hd : Hd r) (hc : c.size = 132) (h1 : oneC c.toList) :
    Calls Tryf.prog 35 #[.pointer (some ⟨rb, 0, none⟩), .agg c] w (TqPost rb s (i + 1) c 1 (-1) w) := by
  have hz := zeroRe
  have hsz := hr.size
  have hsz2 := hr.tail.size
  have HT := Lib.hid (Tm.start (c := c) h)
  obtain ⟨V, hV⟩ : ∃ V, (w.alloc (.cells c tRe)).alloc (.cells reZ tRe) = V := ⟨_, rfl⟩
  rw [hV] at HT
  have HVe := Lib.hid hV
  have HC := Lib.hid hc
  have H1 := Lib.hid h1
  have hm : decide ((i : Int) < (s.size : Int)) = true := by simp at hsz ⊢; omega
  have HM := Lib.hid (more_any rb s i true)
  rw [hm] at HM
  have HR := Lib.hid hr
  have HR2 := Lib.hid hr.tail
  have N63 := Lib.hid hd.no63
  have HD := Lib.hid hd
  obtain ⟨v0, v1, v2, _, _, _⟩ := HT.out.r.cells
  have P42 := Lib.hid (pre_no (l := []) (r := r) (c := UInt8.ofNat 43) (d := UInt8.ofNat 42) (by decide))
  clear hr hc h1 hm h hV hd
  go_enter Tryf.func35, Tryf.ntmps35
  go_wp2
  refine wp_loop_rounds 2 ?_
  rw [rounds_succ]
  go_wp2_with fail
  rw [HVe.out]
  refine (HM.out _ HT.out.r).mono ?_
  rintro e w1 ⟨rfl, n, rfl⟩
  go_wp2_with fail
  refine (skip_f rb s _ i true _ _ (HT.out.r.drew _) hs (by decide) HR.out P42.out).mono ?_
  rintro e w' ⟨rfl, m, rfl⟩
  go_wp2_with fail
  refine (skip_t rb s ⟨#[43]⟩ i true _ _ (HT.out.r.drew _) hs HR.out).mono ?_
  rintro e w1 ⟨rfl, hr1, hk1⟩
  have HT1 : Hid (Tm rb s (i + 1) c w w1) := Lib.hid ((HT.out.drew _).call hr1 hk1)
  clear hr1 hk1
  go_wp2_with fail
  refine (skip_f rb s _ (i + 1) true _ _ HT1.out.r hs (by decide) HR2.out N63.out).mono ?_
  rintro e w2 ⟨rfl, n2, rfl⟩
  have HT2 : Hid (Tm rb s (i + 1) c w (w1.drewN n2)) := Lib.hid (HT1.out.drew n2)
  obtain ⟨V2, hV2⟩ : ∃ V2, w1.drewN n2 = V2 := ⟨_, rfl⟩
  rw [hV2] at HT2
  rw [hV2]
  clear hV2
  go_upto_region 23 with fail
  refine wp_region_list ?_
  refine wpList_load_row rfl tRe _ rfl w.heap.size rfl tRe c (0, 0) _ HT2.out.n Tryf.underlying32 rfl (by rw [sizeRe, HC.out]) ?_
  refine wpList_plain rfl fun K2 hK2 => ?_
  refine wp_bs _ _ _ _ _ _ _ _ _ _ c rfl HC.out ?_
  refine hK2 _ _ ?_
  clear hK2
  go_wp2
  have hb2 : Below V2.heap.size V2 (V2.alloc (.cells c tRe)) := (Below.refl _ _).alloc (Nat.le_refl _) _
  have hnc : (V2.alloc (.cells c tRe)).heap[w.heap.size]? = some (.cells c tRe (0, 0)) := by rw [Lib.alloc_old _ _ _ (Array.getElem?_eq_some_iff.1 HT2.out.n).1]; exact HT2.out.n
  rw [storeRe _ w.heap.size c ((((reZ.toList.set 0 (.int .i64 4)).set 129 (.slice (some ⟨V2.heap.size, 0, none⟩) 1 1)).set 130 (.int .i64 1)).set 131 (.int .i64 (-1))) hnc HC.out rfl (oneC_reT _ rfl _ _), reT_eq]
  obtain ⟨V3, hV3⟩ : ∃ V3, (V2.alloc (.cells c tRe)).setRow w.heap.size (reC 4 noV (.slice (some ⟨V2.heap.size, 0, none⟩) 1 1) 1 (-1)) = V3 := ⟨_, rfl⟩
  have HT3 : Hid (Tm rb s (i + 1) (reC 4 noV (.slice (some ⟨V2.heap.size, 0, none⟩) 1 1) 1 (-1)) w V3) := Lib.hid (by rw [← hV3]; exact HT2.out.quant)
  have hg3 : Hid (V3.heap[V2.heap.size]? = some (.cells c tRe (0, 0)) ∧ w.heap.size + 2 ≤ V2.heap.size) := Lib.hid (by rw [← hV3]; exact HT2.out.row)
  rw [hV3]
  have HC3 : Hid ((reC 4 noV (.slice (some ⟨V2.heap.size, 0, none⟩) 1 1) 1 (-1)).size = 132) := Lib.hid rfl
  have H13 : Hid (oneC (reC 4 noV (.slice (some ⟨V2.heap.size, 0, none⟩) 1 1) 1 (-1)).toList) := Lib.hid (oneC_reC oneC_no rfl)
  obtain ⟨g, hg⟩ : ∃ g, V2.heap.size = g := ⟨_, rfl⟩
  rw [hg] at HT3 hg3 HC3 H13
  obtain ⟨c3, hc3⟩ : ∃ c3, reC 4 noV (.slice (some ⟨g, 0, none⟩) 1 1) 1 (-1) = c3 := ⟨_, rfl⟩
  rw [hc3] at HT3 HC3 H13
  have hc3' := Lib.hid hc3
  clear hV3 hb2 hnc hc3 v0 v1 v2
  have HM2 := Lib.hid (more_any rb s (i + 1) true)
  clear hg
  go_wp2_with fail
  rw [rounds_succ]
  go_wp2_with fail
  rcases HD.out with rfl | ⟨d, r', rfl, hd1, h42, h43, h63, h123⟩
  · have hm : decide (((i + 1 : Nat) : Int) < (s.size : Int)) = false := by simp at hsz2 ⊢; omega
    rw [hm] at HM2
    clear hm hsz hsz2
    refine (HM2.out _ HT3.out.r).mono ?_
    rintro e w4 ⟨rfl, n4, rfl⟩
    go_upto_region 24 with fail
    refine wp_region_list ?_
    refine wpList_load_row rfl tRe _ rfl w.heap.size rfl tRe c3 (0, 0) _ (HT3.out.drew _).n Tryf.underlying32 rfl (by rw [sizeRe, HC3.out]) ?_
    go_wp2
    rw [storeRe _ (w.heap.size + 1) reZ _ (HT3.out.drew _).z rfl (by rw [Array.length_toList, HC3.out]) H13.out]
    go_wp2
    exact Tm.done (HT3.out.drew _) HC3.out rfl (fun w' a b kk => ⟨g, by rw [hc3'.out], by have := hg3.out.2; omega, kk.heap (by have := hg3.out.2; show ¬ _ = g; omega) hg3.out.1, a, b⟩)
  · have hm : decide (((i + 1 : Nat) : Int) < (s.size : Int)) = true := by simp at hsz2 ⊢; omega
    rw [hm] at HM2
    have Q42 := Lib.hid (pre_no (l := []) (r := r') (of_ne (n := 42) hd1 (by omega) h42))
    have Q43 := Lib.hid (pre_no (l := []) (r := r') (of_ne (n := 43) hd1 (by omega) h43))
    have Q63 := Lib.hid (pre_no (l := []) (r := r') (of_ne (n := 63) hd1 (by omega) h63))
    have Q123 := Lib.hid (pre_no (l := []) (r := r') (of_ne (n := 123) hd1 (by omega) h123))
    obtain ⟨x0, x1, x2, _, _, _⟩ := HT3.out.r.cells
    clear hm hsz hsz2
    refine (HM2.out _ HT3.out.r).mono ?_
    rintro e w4 ⟨rfl, n4, rfl⟩
    go_upto_region 6 with (go_at_call 34; refine (skip_f rb s _ (i + 1) true _ _ (by exact HT3.out.r.drew _) hs (by decide) HR2.out (by first | exact Q42.out | exact Q43.out | exact Q63.out | exact Q123.out)).mono ?_; rintro e w' ⟨rfl, m, rfl⟩)
    refine wp_region_list ?_
    refine wpList_load_row rfl tRe _ rfl w.heap.size rfl tRe c3 (0, 0) _ (HT3.out.drew _).n Tryf.underlying32 rfl (by rw [sizeRe, HC3.out]) ?_
    go_wp2
    rw [storeRe _ (w.heap.size + 1) reZ _ (HT3.out.drew _).z rfl (by rw [Array.length_toList, HC3.out]) H13.out]
    go_wp2
    exact Tm.done (HT3.out.drew _) HC3.out rfl (fun w' a b kk => ⟨g, by rw [hc3'.out], by have := hg3.out.2; omega, kk.heap (by have := hg3.out.2; show ¬ _ = g; omega) hg3.out.1, a, b⟩)
set_option maxHeartbeats 4000000 in
set_option maxRecDepth 100000 in
theorem times_opt (rb : Nat) (s : ByteArray) (i : Nat) (r : List UInt8) (c : Array Value) (w : World) (h : RS rb s i true w) (hs : s.size ≤ 4611686018427387904) (hr : Rm s i (UInt8.ofNat 63 :: r)) (hd : Hd r) (hc : c.size = 132) (h1 : oneC c.toList) :
    Calls Tryf.prog 35 #[.pointer (some ⟨rb, 0, none⟩), .agg c] w (TqPost rb s (i + 1) c 0 1 w) := by
  have hz := zeroRe
  have hsz := hr.size
  have hsz2 := hr.tail.size
  have HT := Lib.hid (Tm.start (c := c) h)
  obtain ⟨V, hV⟩ : ∃ V, (w.alloc (.cells c tRe)).alloc (.cells reZ tRe) = V := ⟨_, rfl⟩
  rw [hV] at HT
  have HVe := Lib.hid hV
  have HC := Lib.hid hc
  have H1 := Lib.hid h1
  have hm : decide ((i : Int) < (s.size : Int)) = true := by simp at hsz ⊢; omega
  have HM := Lib.hid (more_any rb s i true)
  rw [hm] at HM
  have HR := Lib.hid hr
  have HR2 := Lib.hid hr.tail
  have N63 := Lib.hid hd.no63
  have HD := Lib.hid hd
  obtain ⟨v0, v1, v2, _, _, _⟩ := HT.out.r.cells
  have P42 := Lib.hid (pre_no (l := []) (r := r) (c := UInt8.ofNat 63) (d := UInt8.ofNat 42) (by decide))
  have P43 := Lib.hid (pre_no (l := []) (r := r) (c := UInt8.ofNat 63) (d := UInt8.ofNat 43) (by decide))
  clear hr hc h1 hm h hV hd
  go_enter Tryf.func35, Tryf.ntmps35
  go_wp2
  refine wp_loop_rounds 2 ?_
  rw [rounds_succ]
  go_wp2_with fail
  rw [HVe.out]
  refine (HM.out _ HT.out.r).mono ?_
  rintro e w1 ⟨rfl, n, rfl⟩
  go_wp2_with fail
  refine (skip_f rb s _ i true _ _ (HT.out.r.drew _) hs (by decide) HR.out P42.out).mono ?_
  rintro e w' ⟨rfl, m, rfl⟩
  go_wp2_with fail
  refine (skip_f rb s _ i true _ _ (HT.out.r.drew _) hs (by decide) HR.out P43.out).mono ?_
  rintro e w' ⟨rfl, m, rfl⟩
  go_wp2_with fail
  refine (skip_t rb s ⟨#[63]⟩ i true _ _ (HT.out.r.drew _) hs HR.out).mono ?_
  rintro e w1 ⟨rfl, hr1, hk1⟩
  have HT1 : Hid (Tm rb s (i + 1) c w w1) := Lib.hid ((HT.out.drew _).call hr1 hk1)
  clear hr1 hk1
  go_wp2_with fail
  refine (skip_f rb s _ (i + 1) true _ _ HT1.out.r hs (by decide) HR2.out N63.out).mono ?_
  rintro e w2 ⟨rfl, n2, rfl⟩
  have HT2 : Hid (Tm rb s (i + 1) c w (w1.drewN n2)) := Lib.hid (HT1.out.drew n2)
  obtain ⟨V2, hV2⟩ : ∃ V2, w1.drewN n2 = V2 := ⟨_, rfl⟩
  rw [hV2] at HT2
  rw [hV2]
  clear hV2
  go_upto_region 23 with fail
  refine wp_region_list ?_
  refine wpList_load_row rfl tRe _ rfl w.heap.size rfl tRe c (0, 0) _ HT2.out.n Tryf.underlying32 rfl (by rw [sizeRe, HC.out]) ?_
  refine wpList_plain rfl fun K2 hK2 => ?_
  refine wp_bs _ _ _ _ _ _ _ _ _ _ c rfl HC.out ?_
  refine hK2 _ _ ?_
  clear hK2
  go_wp2
  have hb2 : Below V2.heap.size V2 (V2.alloc (.cells c tRe)) := (Below.refl _ _).alloc (Nat.le_refl _) _
  have hnc : (V2.alloc (.cells c tRe)).heap[w.heap.size]? = some (.cells c tRe (0, 0)) := by rw [Lib.alloc_old _ _ _ (Array.getElem?_eq_some_iff.1 HT2.out.n).1]; exact HT2.out.n
  rw [storeRe _ w.heap.size c ((((reZ.toList.set 0 (.int .i64 4)).set 129 (.slice (some ⟨V2.heap.size, 0, none⟩) 1 1)).set 130 (.int .i64 0)).set 131 (.int .i64 1)) hnc HC.out rfl (oneC_reT _ rfl _ _), reT_eq]
  obtain ⟨V3, hV3⟩ : ∃ V3, (V2.alloc (.cells c tRe)).setRow w.heap.size (reC 4 noV (.slice (some ⟨V2.heap.size, 0, none⟩) 1 1) 0 1) = V3 := ⟨_, rfl⟩
  have HT3 : Hid (Tm rb s (i + 1) (reC 4 noV (.slice (some ⟨V2.heap.size, 0, none⟩) 1 1) 0 1) w V3) := Lib.hid (by rw [← hV3]; exact HT2.out.quant)
  have hg3 : Hid (V3.heap[V2.heap.size]? = some (.cells c tRe (0, 0)) ∧ w.heap.size + 2 ≤ V2.heap.size) := Lib.hid (by rw [← hV3]; exact HT2.out.row)
  rw [hV3]
  have HC3 : Hid ((reC 4 noV (.slice (some ⟨V2.heap.size, 0, none⟩) 1 1) 0 1).size = 132) := Lib.hid rfl
  have H13 : Hid (oneC (reC 4 noV (.slice (some ⟨V2.heap.size, 0, none⟩) 1 1) 0 1).toList) := Lib.hid (oneC_reC oneC_no rfl)
  obtain ⟨g, hg⟩ : ∃ g, V2.heap.size = g := ⟨_, rfl⟩
  rw [hg] at HT3 hg3 HC3 H13
  obtain ⟨c3, hc3⟩ : ∃ c3, reC 4 noV (.slice (some ⟨g, 0, none⟩) 1 1) 0 1 = c3 := ⟨_, rfl⟩
  rw [hc3] at HT3 HC3 H13
  have hc3' := Lib.hid hc3
  clear hV3 hb2 hnc hc3 v0 v1 v2
  have HM2 := Lib.hid (more_any rb s (i + 1) true)
  clear hg
  go_wp2_with fail
  rw [rounds_succ]
  go_wp2_with fail
  rcases HD.out with rfl | ⟨d, r', rfl, hd1, h42, h43, h63, h123⟩
  · have hm : decide (((i + 1 : Nat) : Int) < (s.size : Int)) = false := by simp at hsz2 ⊢; omega
    rw [hm] at HM2
    clear hm hsz hsz2
    refine (HM2.out _ HT3.out.r).mono ?_
    rintro e w4 ⟨rfl, n4, rfl⟩
    go_upto_region 24 with fail
    refine wp_region_list ?_
    refine wpList_load_row rfl tRe _ rfl w.heap.size rfl tRe c3 (0, 0) _ (HT3.out.drew _).n Tryf.underlying32 rfl (by rw [sizeRe, HC3.out]) ?_
    go_wp2
    rw [storeRe _ (w.heap.size + 1) reZ _ (HT3.out.drew _).z rfl (by rw [Array.length_toList, HC3.out]) H13.out]
    go_wp2
    exact Tm.done (HT3.out.drew _) HC3.out rfl (fun w' a b kk => ⟨g, by rw [hc3'.out], by have := hg3.out.2; omega, kk.heap (by have := hg3.out.2; show ¬ _ = g; omega) hg3.out.1, a, b⟩)
  · have hm : decide (((i + 1 : Nat) : Int) < (s.size : Int)) = true := by simp at hsz2 ⊢; omega
    rw [hm] at HM2
    have Q42 := Lib.hid (pre_no (l := []) (r := r') (of_ne (n := 42) hd1 (by omega) h42))
    have Q43 := Lib.hid (pre_no (l := []) (r := r') (of_ne (n := 43) hd1 (by omega) h43))
    have Q63 := Lib.hid (pre_no (l := []) (r := r') (of_ne (n := 63) hd1 (by omega) h63))
    have Q123 := Lib.hid (pre_no (l := []) (r := r') (of_ne (n := 123) hd1 (by omega) h123))
    obtain ⟨x0, x1, x2, _, _, _⟩ := HT3.out.r.cells
    clear hm hsz hsz2
    refine (HM2.out _ HT3.out.r).mono ?_
    rintro e w4 ⟨rfl, n4, rfl⟩
    go_upto_region 6 with (go_at_call 34; refine (skip_f rb s _ (i + 1) true _ _ (by exact HT3.out.r.drew _) hs (by decide) HR2.out (by first | exact Q42.out | exact Q43.out | exact Q63.out | exact Q123.out)).mono ?_; rintro e w' ⟨rfl, m, rfl⟩)
    refine wp_region_list ?_
    refine wpList_load_row rfl tRe _ rfl w.heap.size rfl tRe c3 (0, 0) _ (HT3.out.drew _).n Tryf.underlying32 rfl (by rw [sizeRe, HC3.out]) ?_
    go_wp2
    rw [storeRe _ (w.heap.size + 1) reZ _ (HT3.out.drew _).z rfl (by rw [Array.length_toList, HC3.out]) H13.out]
    go_wp2
    exact Tm.done (HT3.out.drew _) HC3.out rfl (fun w' a b kk => ⟨g, by rw [hc3'.out], by have := hg3.out.2; omega, kk.heap (by have := hg3.out.2; show ¬ _ = g; omega) hg3.out.1, a, b⟩)
end Go.Proofs.YtjoefmnkbcoblaaFmt

/- times at whatever sign; atom at a thing without kids: as the loop of alt wants them. -/
namespace Go.Proofs.YtjoefmnkbcoblaaFmt
open Go.RowKit
open Re (Fo G Su Ato)
set_option linter.unusedVariables false

/-- bytes out of numbers -/
def bs (l : List Nat) : List UInt8 := l.map UInt8.ofNat
theorem bs_app (a b : List Nat) : bs (a ++ b) = bs a ++ bs b := by simp [bs]
/-- a node with its sign -/
structure Nod where
  k : Nat
  set : List Bool
  kids : Fo
  l : Int
  m : Int
def Nod.fo (n : Nod) (r : Fo) : Fo := .cons n.k n.set n.kids n.l n.m r
def sfxN (q : Su) (k : Nat) (set : List Bool) (kids : Fo) : Nod :=
  match q with
  | .one => ⟨k, set, kids, 0, 0⟩
  | .star => ⟨4, Re.no128, .cons k set kids 0 0 .nil, 0, -1⟩
  | .plus => ⟨4, Re.no128, .cons k set kids 0 0 .nil, 1, -1⟩
  | .opt => ⟨4, Re.no128, .cons k set kids 0 0 .nil, 0, 1⟩
theorem sfx_eq (q : Su) (k : Nat) (set : List Bool) (kids r : Fo) : Re.sfx q k set kids r = (sfxN q k set kids).fo r := by cases q <;> rfl
def NdN (P : Nat → Prop) (w : World) (n : Nod) (c : Array Value) : Prop := Nd P w n.k n.set n.kids n.l n.m c
theorem Nd.times {B : Nat} {w w' : World} {k : Nat} {set : List Bool} {kids : Fo} {c : Array Value} {g : Nat} {l m : Int} (h : Nd (fun g => B ≤ g) w k set kids 0 0 c) {X : Nat → Prop} (kp : Kp X w w') (hX : ∀ g, B ≤ g → ¬ X g) (hg : w'.heap[g]? = some (.cells c tRe (0, 0))) (hb : B ≤ g) :
    Nd (fun g => B ≤ g) w' 4 Re.no128 (.cons k set kids 0 0 .nil) l m (reC 4 noV (.slice (some ⟨g, 0, none⟩) 1 1) l m) := by
  have h' := (h.kept kp hX).foC
  refine ⟨by simp [Re.no128, Re.falses], _, c.toList, by rw [noV_eq]; rfl, ⟨?_, .inr ⟨g, 1, c, rfl, hb, hg, Nat.le_refl _, by decide, ?_, ?_⟩⟩, h'⟩
  · have := h'.length; simpa using this
  · have := h.size; simpa using this
  · have := h.size; rw [List.take_of_length_le (by simp [this, Fo.len])]
theorem times_all (B rb : Nat) (s : ByteArray) (i : Nat) (q : Su) (r : List UInt8) (k : Nat) (set : List Bool) (kids : Fo) (c : Array Value) (w : World) (h : RS rb s i true w) (hs : s.size ≤ 4611686018427387904) (hr : Rm s i (bs (Re.prS q) ++ r)) (hd : Hd r)
    (hn : Nd (fun g => B ≤ g) w k set kids 0 0 c) (hB : B ≤ w.heap.size) (hrb : rb < B) :
    Calls Tryf.prog 35 #[.pointer (some ⟨rb, 0, none⟩), .agg c] w fun e w' => ∃ c', e = .returned (.agg c') ∧ NdN (fun g => B ≤ g) w' (sfxN q k set kids) c' ∧ RS rb s (i + (Re.prS q).length) true w' ∧ Kp (· = rb) w w' := by
  have hX : ∀ g, B ≤ g → ¬ g = rb := fun g hg => by omega
  have done : ∀ (l m : Int) e w', TqPost rb s (i + 1) c l m w e w' → ∃ c', e = .returned (.agg c') ∧ Nd (fun g => B ≤ g) w' 4 Re.no128 (.cons k set kids 0 0 .nil) l m c' ∧ RS rb s (i + 1) true w' ∧ Kp (· = rb) w w' := by
    rintro l m e w' ⟨g, he, hg, hcell, hr', hk⟩
    exact ⟨_, he, hn.times hk hX hcell (by omega), hr', hk⟩
  cases q with
  | one =>
    refine (times_one rb s i r c w h hs hr hd hn.size hn.oneC).mono ?_
    rintro e w' ⟨he, h1, h2⟩
    exact ⟨c, he, hn.kept h2 hX, h1, h2⟩
  | star => exact (times_star rb s i r c w h hs hr hd hn.size hn.oneC).mono (done 0 (-1))
  | plus => exact (times_plus rb s i r c w h hs hr hd hn.size hn.oneC).mono (done 1 (-1))
  | opt => exact (times_opt rb s i r c w h hs hr hd hn.size hn.oneC).mono (done 0 1)
/-- what atom leaves, as the loop of alt wants it -/
def AmPost (rb fb : Nat) (s : ByteArray) (j : Nat) (f2 d2 : Bool) (k : Nat) (set : List Bool) (kids : Fo) (w : World) (e : Ending) (w' : World) : Prop :=
  ∃ c, e = .returned (.agg c) ∧ Nd (fun g => w.heap.size ≤ g) w' k set kids 0 0 c ∧ RS rb s j true w' ∧ FS fb f2 d2 w' ∧ Kp (XR rb fb) w w'
theorem AtPost.am {rb fb : Nat} {s : ByteArray} {j k : Nat} {f2 d2 : Bool} {set : List Bool} {w w' : World} {e : Ending} (h : AtPost rb s j k set w e w') (hl : set.length = 128) (hf : FS fb f2 d2 w) (hne : fb ≠ rb) : AmPost rb fb s j f2 d2 k set .nil w e w' :=
  ⟨_, h.1, Nd.one hl, h.2.1, h.2.2.heap hne hf, h.2.2.mono (fun x _ hx => .inl hx)⟩
theorem atom_ato (rb fb : Nat) (s : ByteArray) (i : Nat) (a : Ato) (r : List UInt8) (fold dot : Bool) (w : World) (h : RS rb s i true w) (hf : FS fb fold dot w) (hs : s.size ≤ 4611686018427387904) (hr : Rm s i (bs (Re.prA a) ++ r)) (ha : a.ok = true) (hc : ∀ n is, a ≠ .cls n is) :
    Calls Tryf.prog 36 #[.pointer (some ⟨rb, 0, none⟩), .pointer (some ⟨fb, 0, none⟩)] w (AmPost rb fb s (i + (Re.prA a).length) fold dot (Re.ndA fold dot a).1 (Re.ndA fold dot a).2 .nil w) := by
  have hne : fb ≠ rb := blk_ne hf h (by decide)
  have hl := Re.ndA_length fold dot a
  cases a with
  | lit c => exact (atom_lit rb fb s i c r fold dot w h hf hs hr ha).mono fun e w' hp => AtPost.am hp hl hf hne
  | esc c =>
    simp only [Re.Ato.ok, Re.escOk, Bool.and_eq_true, decide_eq_true_eq, Bool.not_eq_true'] at ha
    exact (atom_esc rb fb s i c r fold dot w h hf hs hr ha.1 ha.2).mono fun e w' hp => AtPost.am hp hl hf hne
  | dot => exact (atom_dot rb fb s i r fold dot w h hf hs hr).mono fun e w' hp => AtPost.am hp hl hf hne
  | beg => exact (atom_beg rb fb s i r fold dot w h hf hs hr).mono fun e w' hp => AtPost.am hp hl hf hne
  | fin => exact (atom_fin rb fb s i r fold dot w h hf hs hr).mono fun e w' hp => AtPost.am hp hl hf hne
  | cls n is => exact absurd rfl (hc n is)
end Go.Proofs.YtjoefmnkbcoblaaFmt
