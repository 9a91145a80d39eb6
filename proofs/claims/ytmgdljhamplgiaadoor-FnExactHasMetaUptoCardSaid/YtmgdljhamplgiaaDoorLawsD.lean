/- The walks of the laws FnExactHasMeta, FnHasMetaJoin. -/
import Derived.Test.YtmgdljhamplgiaaDoorMetaP
import Derived.Test.YtmgdljhamplgiaaDoorPrintB
namespace Go.Proofs.YtmgdljhamplgiaaDoor
open Go.ChangeShapes Go.WideShapes Go.ChangeAt Go.RowKit
set_option linter.unusedVariables false

theorem PiecesAt.flat : ∀ {n : Nat} {w : World} {v : Value} {ps : List (PT n)}, PiecesAt n w v ps → ∃ b o, SliceAt v (flatOf n ps).length b o ∧ (flatOf n ps).length ≤ 70368744177664 ∧ ∀ i (h : i < (flatOf n ps).length), ∃ vl, FlatAt w b (o + i * 6) (flatOf n ps)[i] vl ∧ ∃ a m c, vl = .slice a m c
  | 0, w, v, ps, ⟨b, o, hs, hl, hc⟩ => by
    have e : flatOf 0 ps = (ps : List PF) := List.map_id' (ps : List PF)
    rw [e]
    exact ⟨b, o, hs, hl, fun i hi => by
      obtain ⟨a, c, hf⟩ := hc i hi
      exact ⟨_, hf, a, 0, c, rfl⟩⟩
  | n + 1, w, v, ps, ⟨b, o, hs, hl, hc⟩ => by
    refine ⟨b, o, by simpa [flatOf] using hs, by simpa [flatOf] using hl, fun i hi => ?_⟩
    have hi' : i < ps.length := by simpa [flatOf] using hi
    obtain ⟨vl, hf, b2, o2, hs2, _⟩ := hc i hi'
    obtain ⟨a, c, hv, _⟩ := sliceAt_shape hs2
    have e : (flatOf (n + 1) ps)[i] = ps[i].1 := by simp [flatOf, PT.f]
    rw [e]
    exact ⟨vl, hf, a, _, c, hv⟩

theorem below_step {w a b : World} (h : Below w.heap.size w a) (k : Below a.heap.size a b) : Below w.heap.size w b := h.trans (k.mono h.size)
theorem slice_len {v : Value} {len b o : Nat} (h : SliceAt v len b o) : ∃ a c, v = .slice a len c := by
  obtain ⟨a, c, h, _⟩ := sliceAt_shape h
  exact ⟨a, c, h⟩

set_option maxHeartbeats 2000000 in
theorem walk_FnExactHasMeta (n : Nat) (ps : List (PT n)) (v : Value) (w : World) (hp : PiecesAt n w v ps) (hn : Names w) (hT : (Pat.printP n ps).length ≤ 16777216) :
    Calls Tryd.prog 3 #[v] w fun e w' => e = .returned (.bool true) ∧ Below w.heap.size w w' := by
  have hok := piecesOk_any false false n 0 v ps w hp (by omega)
  obtain ⟨b, o, hs, hl, hf⟩ := hp.flat
  have hlen : (flatOf n ps).length = ps.length := by simp [flatOf]
  obtain ⟨a, c, rfl, ha⟩ := sliceAt_shape hs
  generalize hfs : flatOf n ps = fs at *
  by_cases hz : fs.length ≤ 2147483647
  · cases h1 : Pat.okP n false false 0 ps
    · rw [h1] at hok
      have HO := Lib.hid hok
      clear hok h1 hf hs hlen hfs ha hp
      go_enter Tryd.func3, Tryd.ntmps3
      go_wp2_with fail
      refine (HO.out).mono ?_; rintro e w1 ⟨rfl, hb1⟩
      go_wp2_with fail
      go_ret
      exact ⟨rfl, hb1⟩
    · rw [h1] at hok
      have HO := Lib.hid hok
      obtain ⟨hfl, hpr⟩ := flat_ok false n 0 ps h1
      rw [hfs] at hfl hpr
      have HP : Hid (∀ w', Below w.heap.size w w' → Calls Tryd.prog 7 #[.slice a fs.length c] w' fun e w'' => e = .returned (.string ⟨(printF fs).toArray⟩) ∧ Below w'.heap.size w' w'') := Lib.hid (fun w' hw' => by
        have := print_any false false n 0 _ ps w' (Names.kept hw' hn) (PiecesAt.kept hw' n hp) h1 (by omega)
        rwa [hpr] at this)
      have hsz : (ByteArray.mk (printF fs).toArray).size < 9223372036854775806 := by rw [Pat.size_mk, ← hpr]; omega
      have HM := Lib.hid (fun w' : World => by
        have := hasMeta_any ⟨(printF fs).toArray⟩ w' hsz
        rw [Pat.data_mk, Pat.meta_pieces fs hfl] at this
        exact this)
      have HF := Lib.hid hf
      have HA := Lib.hid ha
      clear hok h1 hf hs hlen hfs ha hp hfl hpr hT hsz
      generalize ByteArray.mk (printF fs).toArray = txt at *
      go_enter Tryd.func3, Tryd.ntmps3
      go_wp2_with fail
      refine (HO.out).mono ?_; rintro e w1 ⟨rfl, hb1⟩
      go_wp2_with fail
      go_loopw [3, 14] (fun wnt i wr => ∃ k : Nat, k ≤ fs.length ∧ i = .int .i64 k ∧ Below w.heap.size w wr ∧ wnt = .bool ((fs.take k).any fun p => decide (p.kind ≠ 1))) (fun _ i _ => fs.length - (intOf i).toNat)
      case atStart => exact ⟨0, Nat.zero_le _, rfl, hb1, rfl⟩
      case round =>
        obtain ⟨k, hk, rfl, hbw, rfl⟩ := hrel
        by_cases hlt : k < fs.length
        · obtain rfl := HA.out (by omega)
          obtain ⟨vl, hf1, al, nl, cl, rfl⟩ := HF.out k hlt
          have hf2 := FlatAt.kept hbw hf1
          have hstep : (fs.take (k + 1)).any (fun p => decide (p.kind ≠ 1)) = ((fs.take k).any (fun p => decide (p.kind ≠ 1)) || fs[k].kind != 1) := by
            rw [List.take_succ_eq_append_getElem hlt, List.any_append]
            by_cases h : fs[k].kind = 1 <;> simp [h]
          have HS := Lib.hid hstep
          obtain ⟨vi, c0, c1, c2, c3, c4, c5, ht, hit, hs0, hs1⟩ := hf2
          obtain ⟨bi, oi, hsi, hli, hci⟩ := hit
          obtain ⟨ai, capi, rfl, hai⟩ := sliceAt_shape hsi
          clear hf1 hstep hci hsi hai hli
          generalize fs[k] = q at *
          obtain ⟨kind, text, neg, items, sign⟩ := q
          generalize (fs.take k).any (fun p => decide (p.kind ≠ 1)) = acc at *
          cases acc
          all_goals
            go_wp2_with fail
            go_roundw
            case rel => exact ⟨k + 1, by omega, by go_num, hbw.alloc hbw.size _, by rw [HS.out]; simp⟩
            case measure => simp [intOf]; omega
        · have HE : Hid ((fs.take k).any (fun p => decide (p.kind ≠ 1)) = fs.any fun p => decide (p.kind ≠ 1)) := Lib.hid (by rw [List.take_of_length_le (by omega)])
          rw [HE.out]
          generalize fs.any (fun p => decide (p.kind ≠ 1)) = r at *
          clear HE
          go_wp2_with fail
          refine (HP.out _ hbw).mono ?_; rintro e w2 ⟨rfl, hb2⟩
          go_wp2_with fail
          refine (HM.out _).mono ?_; rintro e w' ⟨rfl, rfl⟩
          go_wp2_with fail
          refine (metas_any _).mono ?_; rintro e w' ⟨rfl, rfl⟩
          go_wp2_with fail
          go_ret
          exact ⟨rfl, below_step hbw hb2⟩
  · clear hok hf hs hlen hfs ha hp
    go_enter Tryd.func3, Tryd.ntmps3
    go_wp2_with fail
    go_ret
    exact ⟨rfl, Below.refl _ _⟩
/-- what the calls of PiecesOk and Print at one list of pieces give -/
theorem pieces_calls (n : Nat) (ps : List (PT n)) (v : Value) (w : World) (hp : PiecesAt n w v ps) (hn : Names w) (hT : (Pat.printP n ps).length ≤ 16777216) :
    (∃ a c, v = .slice a ps.length c) ∧ (∀ w', Below w.heap.size w w' → Calls Tryd.prog 5 #[v, .bool false, .bool false, .int .i64 0] w' fun e w'' => e = .returned (.bool (Pat.okP n false false 0 ps)) ∧ Below w'.heap.size w' w'') ∧
    (Pat.okP n false false 0 ps = true → (∀ p ∈ flatOf n ps, Pat.okFlat p = true) ∧ (printF (flatOf n ps)).length ≤ 16777216 ∧ ∀ w', Below w.heap.size w w' → Calls Tryd.prog 7 #[v] w' fun e w'' => e = .returned (.string ⟨(printF (flatOf n ps)).toArray⟩) ∧ Below w'.heap.size w' w'') := by
  obtain ⟨b, o, hs, hl, hf⟩ := hp.flat
  obtain ⟨a, c, hv⟩ := slice_len hs
  refine ⟨⟨a, c, by rw [hv]; simp [flatOf]⟩, fun w' hw' => piecesOk_any false false n 0 v ps w' (PiecesAt.kept hw' n hp) (by omega), fun h1 => ?_⟩
  obtain ⟨hfl, hpr⟩ := flat_ok false n 0 ps h1
  refine ⟨hfl, by rw [← hpr]; exact hT, fun w' hw' => ?_⟩
  have := print_any false false n 0 _ ps w' (Names.kept hw' hn) (PiecesAt.kept hw' n hp) h1 (by omega)
  rwa [hpr] at this

set_option maxHeartbeats 2000000 in
theorem walk_FnHasMetaJoin (n m : Nat) (ps : List (PT n)) (qs : List (PT m)) (v u : Value) (w : World) (hp : PiecesAt n w v ps) (hq : PiecesAt m w u qs) (hn : Names w) (hT : (Pat.printP n ps).length ≤ 16777216) (hU : (Pat.printP m qs).length ≤ 16777216) :
    Calls Tryd.prog 4 #[v, u] w fun e w' => e = .returned (.bool true) ∧ Below w.heap.size w w' := by
  obtain ⟨⟨a, c, hv⟩, ho1, hr1⟩ := pieces_calls n ps v w hp hn hT
  obtain ⟨⟨a2, c2, hu⟩, ho2, hr2⟩ := pieces_calls m qs u w hq hn hU
  subst hv hu
  clear hp hq hT hU hn
  have HO1 := Lib.hid ho1
  have HO2 := Lib.hid ho2
  clear ho1 ho2
  by_cases hz : ps.length ≤ 2147483647
  · by_cases hy : qs.length ≤ 2147483647
    · cases h1 : Pat.okP n false false 0 ps
      · rw [h1] at HO1
        clear h1 hr1 hr2
        go_enter Tryd.func4, Tryd.ntmps4
        go_wp2_with fail
        refine (HO1.out _ (Below.refl _ _)).mono ?_; rintro e w1 ⟨rfl, hb1⟩
        go_wp2_with fail
        go_ret
        exact ⟨rfl, hb1⟩
      · rw [h1] at HO1
        obtain ⟨hf1, hl1, hp1⟩ := hr1 h1
        have HP1 := Lib.hid hp1
        cases h2 : Pat.okP m false false 0 qs
        · rw [h2] at HO2
          clear h1 h2 hr1 hr2 hp1 hf1 hl1
          go_enter Tryd.func4, Tryd.ntmps4
          go_wp2_with fail
          refine (HO1.out _ (Below.refl _ _)).mono ?_; rintro e w1 ⟨rfl, hb1⟩
          go_wp2_with fail
          refine (HO2.out _ hb1).mono ?_; rintro e w2 ⟨rfl, hb2⟩
          go_wp2_with fail
          go_ret
          exact ⟨rfl, below_step hb1 hb2⟩
        · rw [h2] at HO2
          obtain ⟨hf2, hl2, hp2⟩ := hr2 h2
          have HP2 := Lib.hid hp2
          have hm1 := fun w' : World => hasMeta_any ⟨(printF (flatOf n ps)).toArray⟩ w' (by rw [Pat.size_mk]; omega)
          have hm2 := fun w' : World => hasMeta_any ⟨(printF (flatOf m qs)).toArray⟩ w' (by rw [Pat.size_mk]; omega)
          have hm3 := fun w' : World => hasMeta_any (ByteArray.mk (printF (flatOf n ps)).toArray ++ ByteArray.mk (printF (flatOf m qs)).toArray) w' (by rw [ByteArray.size_append, Pat.size_mk, Pat.size_mk]; omega)
          have hs1 := Pat.size_mk (printF (flatOf n ps))
          have hs2 := Pat.size_mk (printF (flatOf m qs))
          simp only [Pat.data_app] at hm1 hm2 hm3
          rw [Pat.meta_print _ _ hf1] at hm3
          rw [Pat.meta_pieces _ hf1] at hm1
          have HM1 := Lib.hid hm1
          have HM2 := Lib.hid hm2
          have HM3 := Lib.hid hm3
          clear h1 h2 hr1 hr2 hp1 hp2 hf1 hf2 hm1 hm2 hm3
          rw [← hs1] at hl1
          rw [← hs2] at hl2
          clear hs1 hs2
          generalize ByteArray.mk (printF (flatOf n ps)).toArray = t1 at *
          generalize ByteArray.mk (printF (flatOf m qs)).toArray = t2 at *
          generalize ((flatOf n ps).any fun p => decide (p.kind ≠ 1)) = r1 at *
          generalize Pat.metaL false (printF (flatOf m qs)) = r2 at *
          cases r1
          all_goals
            simp only [Bool.false_or, Bool.true_or] at HM3
            go_enter Tryd.func4, Tryd.ntmps4
            go_wp2_with fail
            refine (HO1.out _ (Below.refl _ _)).mono ?_; rintro e w1 ⟨rfl, hb1⟩
            go_wp2_with fail
            refine (HO2.out _ hb1).mono ?_; rintro e w2 ⟨rfl, hb2⟩
            have hb12 := below_step hb1 hb2
            go_wp2_with fail
            refine (HP1.out _ hb12).mono ?_; rintro e w3 ⟨rfl, hb3⟩
            have hb13 := below_step hb12 hb3
            go_wp2_with fail
            refine (HP2.out _ hb13).mono ?_; rintro e w4 ⟨rfl, hb4⟩
            have hb14 := below_step hb13 hb4
            go_wp2_with fail
            refine (HM3.out _).mono ?_; rintro e w' ⟨rfl, rfl⟩
            go_wp2_with fail
            refine (HM1.out _).mono ?_; rintro e w' ⟨rfl, rfl⟩
            go_wp2_with fail
          · refine (HM2.out _).mono ?_; rintro e w' ⟨rfl, rfl⟩
            go_wp2_with fail
            refine (metas_any _).mono ?_; rintro e w' ⟨rfl, rfl⟩
            go_wp2_with fail
            go_ret
            exact ⟨rfl, hb14⟩
          · refine (metas_any _).mono ?_; rintro e w' ⟨rfl, rfl⟩
            go_wp2_with fail
            go_ret
            exact ⟨rfl, hb14⟩
    · clear HO1 HO2 hr1 hr2
      go_enter Tryd.func4, Tryd.ntmps4
      go_wp2_with fail
      go_ret
      exact ⟨rfl, Below.refl _ _⟩
  · clear HO1 HO2 hr1 hr2
    go_enter Tryd.func4, Tryd.ntmps4
    go_wp2_with fail
    go_ret
    exact ⟨rfl, Below.refl _ _⟩
end Go.Proofs.YtmgdljhamplgiaaDoor
