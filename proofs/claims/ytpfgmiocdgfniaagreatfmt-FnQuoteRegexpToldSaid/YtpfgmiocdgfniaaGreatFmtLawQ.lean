/- Walk: laws.FnQuoteRegexp. -/
import Derived.Test.YtpfgmiocdgfniaaGreatFmtP31
import Derived.Test.YtpfgmiocdgfniaaGreatFmtP38
import Derived.Test.YtpfgmiocdgfniaaGreatFmtP37
namespace Go.Proofs.YtpfgmiocdgfniaaGreatFmt
open Go.RowKit Go.Extern.Stop Go.Stop Go.Extern
open Re (Fo G fnd)
set_option linter.unusedVariables false

theorem eq_listsQ (s p : ByteArray) : (s.toList == p.toList) = decide (s.data.toList = p.data.toList) := by
  rw [toList_data', toList_data', Bool.eq_iff_iff, beq_iff_eq, decide_eq_true_iff]
theorem textQ_bytes (l : List UInt8) (h : Pat.textQ l = true) : ∀ c ∈ l, 1 ≤ c.toNat ∧ c.toNat < 128 := by
  intro c hc
  have := List.all_eq_true.1 h c hc
  simp at this
  omega
attribute [local go_sem ↓] ld_eq st_eq
attribute [local go_sem] run_ldAt run_stRe
set_option maxHeartbeats 2000000 in
set_option maxRecDepth 100000 in
theorem quoteRegexp_in (F : Interp) (pe : Addr) (s t : ByteArray) (w : World) (h : LW F pe w) (hs : s.size ≤ 2147483647) (ht : t.size ≤ 2147483647) (hsd : Pat.textQ s.data.toList = true) (htd : Pat.textQ t.data.toList = true) :
    Calls Tryz.prog 3 #[.string s, .string t] w fun e w' => e = .returned (.bool true) ∧ Below w.heap.size w w' := by
  have h1 := textQ_any s w (by unfold maxLen; omega)
  have h2 := textQ_any t w (by unfold maxLen; omega)
  have hz := zeroRe
  have d1 : decide ((2147483647 : Int) < (s.size : Int)) = false := by simp; omega
  have d2 : decide ((2147483647 : Int) < (t.size : Int)) = false := by simp; omega
  rw [hsd] at h1
  rw [htd] at h2
  have HT1 := Lib.hid h1
  have HT2 := Lib.hid h2
  have hby := textQ_bytes _ hsd
  have hasc : Pat.asciiL s.data.toList = true := List.all_eq_true.2 (fun c hc => by have := hby c hc; simp; omega)
  have hql := Pat.quoteL_length s.data.toList
  rw [Pat.size_toList] at hql
  have HQM : Hid (∀ V, Calls Tryz.prog 8 #[.string s] V fun e w' => e = .returned (.string ⟨(Pat.quoteL s.data.toList).toArray⟩) ∧ Below V.heap.size V w') := Lib.hid fun V => quoteMeta_ascii s V (by omega) hasc
  obtain ⟨g, hg1, hgo, hgC, hgl, hg4⟩ := quote_reg s.data.toList hby
  have hgl2 : (Re.pr g).length ≤ 274877906944 := by omega
  have fs : fnd s.data.toList g = true := by rw [hg4 _ (textQ_asc _ hsd)]; simp
  have ft : fnd t.data.toList g = (s.toList == t.toList) := by rw [hg4 _ (textQ_asc _ htd), eq_listsQ]
  generalize hzz : (s.toList == t.toList) = z at ft
  have FS := Lib.hid fs
  have FT := Lib.hid ft
  have hqs : (ByteArray.mk (Pat.quoteL s.data.toList).toArray).size ≤ 4398046511104 := by rw [Pat.size_mk]; omega
  have HI : Hid (∀ V, Below w.heap.size w V → Calls Tryz.prog 7 #[.string ⟨(Pat.quoteL s.data.toList).toArray⟩, .int .u64 4] V fun e w' => (∃ gv, e = .returned (.tuple #[.string ⟨(bs (Re.pr g)).toArray⟩, .int .i64 0, gv])) ∧ Below V.heap.size V w') :=
    Lib.hid fun V hb => impl_g F _ pe 4 mdE true false false V moE mxE (h.below hb) hqs g hg1
  have HR : Hid (∀ V : World, Calls Tryz.prog 9 #[.string ⟨(bs (Re.pr g)).toArray⟩] V fun e w' => ∃ c, e = .returned (.tuple #[.agg c, .bool true]) ∧ Nd (fun x => V.heap.size ≤ x) w' 3 Re.no128 (Re.lists g false false) 0 0 c ∧ Below V.heap.size V w') := Lib.hid fun V => read_g g hgC hgo hgl2 V
  clear h1 h2 hsd htd h hby hasc hql hg1 hgo hgC hgl hgl2 hg4 fs ft hqs
  go_enter Tryz.func3, Tryz.ntmps3
  go_wp2_with fail
  refine HT1.out.mono ?_
  rintro e w' ⟨rfl, rfl⟩
  go_wp2_with fail
  refine HT2.out.mono ?_
  rintro e w' ⟨rfl, rfl⟩
  go_wp2_with fail
  refine (HQM.out _).mono ?_
  rintro e w0 ⟨rfl, hb0⟩
  have HB0 := Lib.hid hb0
  clear hb0 HQM HT1 HT2
  go_wp2_with fail
  refine (HI.out _ HB0.out).mono ?_
  rintro e w1 ⟨⟨gv, rfl⟩, hb⟩
  have HB := Lib.hid (HB0.out.trans (hb.mono HB0.out.size))
  clear hb HI HB0
  go_wp2_with fail
  refine (HR.out w1).mono ?_
  rintro e w2 ⟨c2, rfl, hn, hb2⟩
  have hcs := hn.size
  have n3 : nodeAt (w2.alloc (.cells reZ tRe)) (.pointer (some ⟨w2.heap.size, 0, none⟩)) := ⟨_, reZ, rfl, heap_alloc_new w2 _, rfl⟩
  have n4 : oneNode (.agg c2) := ⟨c2, rfl, hcs, hn.oneC⟩
  have HN := Lib.hid hn
  have HB2 := Lib.hid (HB.out.trans (hb2.mono HB.out.size))
  clear hn hb2 HR
  go_upto_region 7 with fail
  clear n3 n4
  simp only [blkOf, World.setRow_alloc_new]
  obtain ⟨p1, p2⟩ := box_at (w := w2) hcs
  obtain ⟨W3, hW3⟩ : ∃ W3, w2.alloc (.cells c2 tRe) = W3 := ⟨_, rfl⟩
  have k3 : Kp (fun _ => False) w2 W3 := by rw [← hW3]; exact (Kp.refl _ _).alloc _
  have b3 : W3.heap[w2.heap.size]? = some (.cells c2 tRe (0, 0)) := by rw [← hW3]; exact heap_alloc_new w2 _
  rw [hW3] at p1 p2
  rw [hW3]
  clear hW3
  have N3 : Hid (Nd (fun _ => True) W3 3 Re.no128 (Re.lists g false false) 0 0 c2) := Lib.hid ((HN.out.mono (fun _ _ _ => trivial)).kept k3 (fun _ _ => id))
  have H3 := Lib.hid (HB2.out.trans ((Kp.below k3 (Nat.le_refl _) (fun _ _ => id)).mono HB2.out.size))
  have B3 := Lib.hid b3
  clear k3 b3 HN HB2
  have F0 := Lib.hid (found_g g W3 c2 t N3.out (by omega))
  go_wp2_with fail
  refine F0.out.mono ?_
  rintro e w4 ⟨rfl, hb4⟩
  have k4 : Kp (fun _ => False) W3 w4 := Kp.of_below hb4
  have b4 := k4.heap id B3.out
  have q1 : reOk w4 (.pointer (some ⟨w2.heap.size, 0, none⟩)) := ⟨_, 0, c2, rfl, b4, by omega⟩
  have q2 : reAt w4 (.pointer (some ⟨w2.heap.size, 0, none⟩)) = c2 := by
    rw [reAt_eq b4, List.drop_zero, List.take_of_length_le (by simp; omega)]
  have H4 := Lib.hid (H3.out.trans ((Kp.below k4 (Nat.le_refl _) (fun _ _ => id)).mono H3.out.size))
  have N4 := Lib.hid (N3.out.kept k4 (fun _ _ => id))
  rw [FT.out]
  clear hb4 k4 b4 F0 B3 p1 p2 N3 H3 FT
  have F1 := Lib.hid (found_g g w4 c2 s N4.out (by omega))
  cases z
  all_goals
    go_wp2_with fail
    refine F1.out.mono ?_
    rintro e w5 ⟨rfl, hb5⟩
    have H5 := Lib.hid (H4.out.trans (hb5.mono H4.out.size))
    rw [FS.out]
    clear hb5 F1
    go_wp2_with fail
    refine (quotes_any _).mono ?_
    rintro e wz ⟨rfl, hbz⟩
    have HZ := Lib.hid (H5.out.trans (hbz.mono H5.out.size))
    clear hbz
    go_wp2_with fail
    go_ret
    exact ⟨rfl, HZ.out⟩
set_option maxHeartbeats 2000000 in
theorem walk_FnQuoteRegexp (F : Interp) (pe : Addr) (s t : ByteArray) (w : World) (h : LW F pe w) (hs : s.size ≤ maxLen) (ht : t.size ≤ maxLen) :
    Calls Tryz.prog 3 #[.string s, .string t] w fun e w' => e = .returned (.bool true) ∧ Below w.heap.size w w' := by
  have hq1 := textQ_any s w hs
  have hq2 := textQ_any t w ht
  unfold maxLen at hs ht
  by_cases h1 : s.size ≤ 2147483647
  · have d1 : decide ((2147483647 : Int) < (s.size : Int)) = false := by simp; omega
    by_cases h2 : t.size ≤ 2147483647
    · have d2 : decide ((2147483647 : Int) < (t.size : Int)) = false := by simp; omega
      cases hsd : Pat.textQ s.data.toList with
      | false =>
        rw [hsd] at hq1
        have HQ := Lib.hid hq1
        clear hq1 hq2 hsd h
        go_enter Tryz.func3, Tryz.ntmps3
        go_wp2_with fail
        refine HQ.out.mono ?_
        rintro e w' ⟨rfl, rfl⟩
        go_wp2_with fail
        go_ret
        exact ⟨rfl, Below.refl _ _⟩
      | true =>
        cases htd : Pat.textQ t.data.toList with
        | false =>
          rw [hsd] at hq1
          rw [htd] at hq2
          have HQ := Lib.hid hq1
          have HP := Lib.hid hq2
          clear hq1 hq2 hsd htd h
          go_enter Tryz.func3, Tryz.ntmps3
          go_wp2_with fail
          refine HQ.out.mono ?_
          rintro e w' ⟨rfl, rfl⟩
          go_wp2_with fail
          refine HP.out.mono ?_
          rintro e w' ⟨rfl, rfl⟩
          go_wp2_with fail
          go_ret
          exact ⟨rfl, Below.refl _ _⟩
        | true => exact quoteRegexp_in F pe s t w h h1 h2 hsd htd
    · have d2 : decide ((2147483647 : Int) < (t.size : Int)) = true := by simp; omega
      clear h hq1 hq2
      go_enter Tryz.func3, Tryz.ntmps3
      go_wp2
      go_ret
      exact ⟨rfl, Below.refl _ _⟩
  · have d1 : decide ((2147483647 : Int) < (s.size : Int)) = true := by simp; omega
    clear h hq1 hq2
    go_enter Tryz.func3, Tryz.ntmps3
    go_wp2
    go_ret
    exact ⟨rfl, Below.refl _ _⟩
end Go.Proofs.YtpfgmiocdgfniaaGreatFmt
