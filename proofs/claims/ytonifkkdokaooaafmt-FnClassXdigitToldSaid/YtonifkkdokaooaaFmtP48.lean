/- Joined by pack.py: LawC. -/
import Derived.Test.YtonifkkdokaooaaFmtP47
/- Walks: the laws FnClass... Printed by gen_lawc.py. -/
namespace Go.Proofs.YtonifkkdokaooaaFmt
open Go.RowKit Go.Extern.Stop Go.Stop Go.Extern
open Re (Fo G CI fnd)
set_option linter.unusedVariables false

attribute [local go_sem ↓] ld_eq st_eq
attribute [local go_sem] run_ldAt run_stRe
set_option maxHeartbeats 2000000 in
set_option maxRecDepth 100000 in
theorem walk_FnClassAlnum (F : Interp) (pe : Addr) (c : Int) (w : World) (h : LW F pe w) (hc : 0 ≤ c ∧ c ≤ 255) :
    Calls Tryf.prog 3 #[.int .u8 c] w fun e w' => e = .returned (.bool true) ∧ Below w.heap.size w w' := by
  by_cases h1 : 127 < c
  · have d1 : decide ((127 : Int) < c) = true := by simpa using h1
    clear h
    go_enter Tryf.func3, Tryf.ntmps3
    go_wp2
    go_ret
    exact ⟨rfl, Below.refl _ _⟩
  · obtain ⟨n, rfl⟩ : ∃ n : Nat, c = n := ⟨c.toNat, by omega⟩
    have d1 : decide ((127 : Int) < (n : Int)) = false := by simp; omega
    have hn : n < 128 := by omega
    have hz := zeroRe
    obtain ⟨g, hg1, hgo, hgl, hg4⟩ := one_nm 1 (by omega) (by omega) ⟨#[91, 91, 58, 97, 108, 110, 117, 109, 58, 93, 93]⟩ rfl
    have hgl2 : (Re.pr g).length ≤ 274877906944 := Nat.le_trans hgl (by decide)
    obtain ⟨z, hzq⟩ : ∃ z, inB 1 n = z := ⟨_, rfl⟩
    have hfn : fnd (ByteArray.mk #[UInt8.ofNat n]).data.toList g = z := by rw [← hzq]; exact hg4 n hn
    have HFN := Lib.hid hfn
    have IC : Hid (∀ w, Calls Tryf.prog 19 #[.int .i64 1, .int .u8 n] w fun e w' => e = .returned (.bool z) ∧ w = w') := Lib.hid fun w => by rw [← hzq]; exact inClass_1 n w
    have HI := Lib.hid (impl_g F ⟨#[91, 91, 58, 97, 108, 110, 117, 109, 58, 93, 93]⟩ pe 4 mdE true false false w moE mxE h (by decide) g hg1)
    have HR : Hid (∀ V : World, CT V → Calls Tryf.prog 17 #[.string ⟨(bs (Re.pr g)).toArray⟩] V fun e w' => ∃ c, e = .returned (.tuple #[.agg c, .bool true]) ∧ Nd (fun x => V.heap.size ≤ x) w' 3 Re.no128 (Re.lists g false false) 0 0 c ∧ Below V.heap.size V w') := Lib.hid fun V ct => read_gc g hgo hgl2 V ct
    have H := Lib.hid h
    clear h hg1 hgo hgl hgl2 hg4 hzq hfn h1
    go_enter Tryf.func3, Tryf.ntmps3
    go_wp2_with fail
    refine HI.out.mono ?_
    rintro e w1 ⟨⟨gv, rfl⟩, hb⟩
    have HB := Lib.hid hb
    clear hb HI
    go_wp2_with fail
    refine (HR.out w1 (H.out.ctB HB.out)).mono ?_
    rintro e w2 ⟨c2, rfl, hn2, hb2⟩
    have hcs := hn2.size
    have n3 : nodeAt (w2.alloc (.cells reZ tRe)) (.pointer (some ⟨w2.heap.size, 0, none⟩)) := ⟨_, reZ, rfl, heap_alloc_new w2 _, rfl⟩
    have n4 : oneNode (.agg c2) := ⟨c2, rfl, hcs, hn2.oneC⟩
    have HN := Lib.hid hn2
    have HB2 := Lib.hid (HB.out.trans (hb2.mono HB.out.size))
    clear hn2 hb2 HR
    go_upto_region 5 with fail
    clear n3 n4
    simp only [blkOf, World.setRow_alloc_new]
    obtain ⟨p1, p2⟩ := box_at (w := w2) hcs
    obtain ⟨W3, hW3⟩ : ∃ W3, w2.alloc (.cells c2 tRe) = W3 := ⟨_, rfl⟩
    have k3 : Kp (fun _ => False) w2 W3 := by rw [← hW3]; exact (Kp.refl _ _).alloc _
    have b3 : W3.heap[w2.heap.size]? = some (.cells c2 tRe (0, 0)) := by rw [← hW3]; exact heap_alloc_new w2 _
    rw [hW3] at p1 p2
    rw [hW3]
    clear hW3
    have N3 : Hid (Nd (fun _ => True) W3 3 Re.no128 (Re.lists g false false) 0 0 c2) := Lib.hid ((HN.out.mono (fun _ _ _ => trivial)).kept k3 (fun _ _ => id))
    have H3 := Lib.hid (HB2.out.trans ((Kp.below k3 (Nat.le_refl _) (fun _ _ => id)).mono HB2.out.size))
    have B3 := Lib.hid b3
    clear k3 b3 HN HB2
    have hcv := conv_c1 W3 n (by omega)
    have F0 := Lib.hid (found_g g (W3.alloc (.cells #[.int .u8 n] 5)) c2 ⟨#[UInt8.ofNat n]⟩ (N3.out.kept (Kp.alloc (X := fun _ => False) (Kp.refl _ W3) _) (fun _ _ => id)) (by show 1 ≤ 274877906944; decide))
    go_wp2_with fail
    refine F0.out.mono ?_
    rintro e w4 ⟨rfl, hb4⟩
    have k4 : Kp (fun _ => False) W3 w4 := (Kp.alloc (Kp.refl _ W3) _).trans (Kp.of_below hb4)
    have H4 := Lib.hid (H3.out.trans ((Kp.below k4 (Nat.le_refl _) (fun _ _ => id)).mono H3.out.size))
    rw [HFN.out]
    clear hb4 k4 F0 B3 p1 p2 N3 H3 hcv HFN
    go_wp2_with fail
    refine (IC.out _).mono ?_
    rintro e w5 ⟨rfl, rfl⟩
    have HW := Lib.hid (works_any F pe w4 (H.out.below H4.out))
    clear IC
    cases z
    all_goals
      go_wp2_with fail
      refine HW.out.mono ?_
      rintro e wz ⟨rfl, hbz⟩
      have HZ := Lib.hid (H4.out.trans (hbz.mono H4.out.size))
      clear hbz HW
      go_wp2_with fail
      go_ret
      exact ⟨rfl, HZ.out⟩
set_option maxHeartbeats 2000000 in
set_option maxRecDepth 100000 in
theorem walk_FnClassAlpha (F : Interp) (pe : Addr) (c : Int) (w : World) (h : LW F pe w) (hc : 0 ≤ c ∧ c ≤ 255) :
    Calls Tryf.prog 4 #[.int .u8 c] w fun e w' => e = .returned (.bool true) ∧ Below w.heap.size w w' := by
  by_cases h1 : 127 < c
  · have d1 : decide ((127 : Int) < c) = true := by simpa using h1
    clear h
    go_enter Tryf.func4, Tryf.ntmps4
    go_wp2
    go_ret
    exact ⟨rfl, Below.refl _ _⟩
  · obtain ⟨n, rfl⟩ : ∃ n : Nat, c = n := ⟨c.toNat, by omega⟩
    have d1 : decide ((127 : Int) < (n : Int)) = false := by simp; omega
    have hn : n < 128 := by omega
    have hz := zeroRe
    obtain ⟨g, hg1, hgo, hgl, hg4⟩ := one_nm 2 (by omega) (by omega) ⟨#[91, 91, 58, 97, 108, 112, 104, 97, 58, 93, 93]⟩ rfl
    have hgl2 : (Re.pr g).length ≤ 274877906944 := Nat.le_trans hgl (by decide)
    obtain ⟨z, hzq⟩ : ∃ z, inB 2 n = z := ⟨_, rfl⟩
    have hfn : fnd (ByteArray.mk #[UInt8.ofNat n]).data.toList g = z := by rw [← hzq]; exact hg4 n hn
    have HFN := Lib.hid hfn
    have IC : Hid (∀ w, Calls Tryf.prog 19 #[.int .i64 2, .int .u8 n] w fun e w' => e = .returned (.bool z) ∧ w = w') := Lib.hid fun w => by rw [← hzq]; exact inClass_2 n w
    have HI := Lib.hid (impl_g F ⟨#[91, 91, 58, 97, 108, 112, 104, 97, 58, 93, 93]⟩ pe 4 mdE true false false w moE mxE h (by decide) g hg1)
    have HR : Hid (∀ V : World, CT V → Calls Tryf.prog 17 #[.string ⟨(bs (Re.pr g)).toArray⟩] V fun e w' => ∃ c, e = .returned (.tuple #[.agg c, .bool true]) ∧ Nd (fun x => V.heap.size ≤ x) w' 3 Re.no128 (Re.lists g false false) 0 0 c ∧ Below V.heap.size V w') := Lib.hid fun V ct => read_gc g hgo hgl2 V ct
    have H := Lib.hid h
    clear h hg1 hgo hgl hgl2 hg4 hzq hfn h1
    go_enter Tryf.func4, Tryf.ntmps4
    go_wp2_with fail
    refine HI.out.mono ?_
    rintro e w1 ⟨⟨gv, rfl⟩, hb⟩
    have HB := Lib.hid hb
    clear hb HI
    go_wp2_with fail
    refine (HR.out w1 (H.out.ctB HB.out)).mono ?_
    rintro e w2 ⟨c2, rfl, hn2, hb2⟩
    have hcs := hn2.size
    have n3 : nodeAt (w2.alloc (.cells reZ tRe)) (.pointer (some ⟨w2.heap.size, 0, none⟩)) := ⟨_, reZ, rfl, heap_alloc_new w2 _, rfl⟩
    have n4 : oneNode (.agg c2) := ⟨c2, rfl, hcs, hn2.oneC⟩
    have HN := Lib.hid hn2
    have HB2 := Lib.hid (HB.out.trans (hb2.mono HB.out.size))
    clear hn2 hb2 HR
    go_upto_region 5 with fail
    clear n3 n4
    simp only [blkOf, World.setRow_alloc_new]
    obtain ⟨p1, p2⟩ := box_at (w := w2) hcs
    obtain ⟨W3, hW3⟩ : ∃ W3, w2.alloc (.cells c2 tRe) = W3 := ⟨_, rfl⟩
    have k3 : Kp (fun _ => False) w2 W3 := by rw [← hW3]; exact (Kp.refl _ _).alloc _
    have b3 : W3.heap[w2.heap.size]? = some (.cells c2 tRe (0, 0)) := by rw [← hW3]; exact heap_alloc_new w2 _
    rw [hW3] at p1 p2
    rw [hW3]
    clear hW3
    have N3 : Hid (Nd (fun _ => True) W3 3 Re.no128 (Re.lists g false false) 0 0 c2) := Lib.hid ((HN.out.mono (fun _ _ _ => trivial)).kept k3 (fun _ _ => id))
    have H3 := Lib.hid (HB2.out.trans ((Kp.below k3 (Nat.le_refl _) (fun _ _ => id)).mono HB2.out.size))
    have B3 := Lib.hid b3
    clear k3 b3 HN HB2
    have hcv := conv_c1 W3 n (by omega)
    have F0 := Lib.hid (found_g g (W3.alloc (.cells #[.int .u8 n] 5)) c2 ⟨#[UInt8.ofNat n]⟩ (N3.out.kept (Kp.alloc (X := fun _ => False) (Kp.refl _ W3) _) (fun _ _ => id)) (by show 1 ≤ 274877906944; decide))
    go_wp2_with fail
    refine F0.out.mono ?_
    rintro e w4 ⟨rfl, hb4⟩
    have k4 : Kp (fun _ => False) W3 w4 := (Kp.alloc (Kp.refl _ W3) _).trans (Kp.of_below hb4)
    have H4 := Lib.hid (H3.out.trans ((Kp.below k4 (Nat.le_refl _) (fun _ _ => id)).mono H3.out.size))
    rw [HFN.out]
    clear hb4 k4 F0 B3 p1 p2 N3 H3 hcv HFN
    go_wp2_with fail
    refine (IC.out _).mono ?_
    rintro e w5 ⟨rfl, rfl⟩
    have HW := Lib.hid (works_any F pe w4 (H.out.below H4.out))
    clear IC
    cases z
    all_goals
      go_wp2_with fail
      refine HW.out.mono ?_
      rintro e wz ⟨rfl, hbz⟩
      have HZ := Lib.hid (H4.out.trans (hbz.mono H4.out.size))
      clear hbz HW
      go_wp2_with fail
      go_ret
      exact ⟨rfl, HZ.out⟩
set_option maxHeartbeats 2000000 in
set_option maxRecDepth 100000 in
theorem walk_FnClassBlank (F : Interp) (pe : Addr) (c : Int) (w : World) (h : LW F pe w) (hc : 0 ≤ c ∧ c ≤ 255) :
    Calls Tryf.prog 5 #[.int .u8 c] w fun e w' => e = .returned (.bool true) ∧ Below w.heap.size w w' := by
  by_cases h1 : 127 < c
  · have d1 : decide ((127 : Int) < c) = true := by simpa using h1
    clear h
    go_enter Tryf.func5, Tryf.ntmps5
    go_wp2
    go_ret
    exact ⟨rfl, Below.refl _ _⟩
  · obtain ⟨n, rfl⟩ : ∃ n : Nat, c = n := ⟨c.toNat, by omega⟩
    have d1 : decide ((127 : Int) < (n : Int)) = false := by simp; omega
    have hn : n < 128 := by omega
    have hz := zeroRe
    obtain ⟨g, hg1, hgo, hgl, hg4⟩ := one_nm 3 (by omega) (by omega) ⟨#[91, 91, 58, 98, 108, 97, 110, 107, 58, 93, 93]⟩ rfl
    have hgl2 : (Re.pr g).length ≤ 274877906944 := Nat.le_trans hgl (by decide)
    obtain ⟨z, hzq⟩ : ∃ z, inB 3 n = z := ⟨_, rfl⟩
    have hfn : fnd (ByteArray.mk #[UInt8.ofNat n]).data.toList g = z := by rw [← hzq]; exact hg4 n hn
    have HFN := Lib.hid hfn
    have IC : Hid (∀ w, Calls Tryf.prog 19 #[.int .i64 3, .int .u8 n] w fun e w' => e = .returned (.bool z) ∧ w = w') := Lib.hid fun w => by rw [← hzq]; exact inClass_3 n w
    have HI := Lib.hid (impl_g F ⟨#[91, 91, 58, 98, 108, 97, 110, 107, 58, 93, 93]⟩ pe 4 mdE true false false w moE mxE h (by decide) g hg1)
    have HR : Hid (∀ V : World, CT V → Calls Tryf.prog 17 #[.string ⟨(bs (Re.pr g)).toArray⟩] V fun e w' => ∃ c, e = .returned (.tuple #[.agg c, .bool true]) ∧ Nd (fun x => V.heap.size ≤ x) w' 3 Re.no128 (Re.lists g false false) 0 0 c ∧ Below V.heap.size V w') := Lib.hid fun V ct => read_gc g hgo hgl2 V ct
    have H := Lib.hid h
    clear h hg1 hgo hgl hgl2 hg4 hzq hfn h1
    go_enter Tryf.func5, Tryf.ntmps5
    go_wp2_with fail
    refine HI.out.mono ?_
    rintro e w1 ⟨⟨gv, rfl⟩, hb⟩
    have HB := Lib.hid hb
    clear hb HI
    go_wp2_with fail
    refine (HR.out w1 (H.out.ctB HB.out)).mono ?_
    rintro e w2 ⟨c2, rfl, hn2, hb2⟩
    have hcs := hn2.size
    have n3 : nodeAt (w2.alloc (.cells reZ tRe)) (.pointer (some ⟨w2.heap.size, 0, none⟩)) := ⟨_, reZ, rfl, heap_alloc_new w2 _, rfl⟩
    have n4 : oneNode (.agg c2) := ⟨c2, rfl, hcs, hn2.oneC⟩
    have HN := Lib.hid hn2
    have HB2 := Lib.hid (HB.out.trans (hb2.mono HB.out.size))
    clear hn2 hb2 HR
    go_upto_region 5 with fail
    clear n3 n4
    simp only [blkOf, World.setRow_alloc_new]
    obtain ⟨p1, p2⟩ := box_at (w := w2) hcs
    obtain ⟨W3, hW3⟩ : ∃ W3, w2.alloc (.cells c2 tRe) = W3 := ⟨_, rfl⟩
    have k3 : Kp (fun _ => False) w2 W3 := by rw [← hW3]; exact (Kp.refl _ _).alloc _
    have b3 : W3.heap[w2.heap.size]? = some (.cells c2 tRe (0, 0)) := by rw [← hW3]; exact heap_alloc_new w2 _
    rw [hW3] at p1 p2
    rw [hW3]
    clear hW3
    have N3 : Hid (Nd (fun _ => True) W3 3 Re.no128 (Re.lists g false false) 0 0 c2) := Lib.hid ((HN.out.mono (fun _ _ _ => trivial)).kept k3 (fun _ _ => id))
    have H3 := Lib.hid (HB2.out.trans ((Kp.below k3 (Nat.le_refl _) (fun _ _ => id)).mono HB2.out.size))
    have B3 := Lib.hid b3
    clear k3 b3 HN HB2
    have hcv := conv_c1 W3 n (by omega)
    have F0 := Lib.hid (found_g g (W3.alloc (.cells #[.int .u8 n] 5)) c2 ⟨#[UInt8.ofNat n]⟩ (N3.out.kept (Kp.alloc (X := fun _ => False) (Kp.refl _ W3) _) (fun _ _ => id)) (by show 1 ≤ 274877906944; decide))
    go_wp2_with fail
    refine F0.out.mono ?_
    rintro e w4 ⟨rfl, hb4⟩
    have k4 : Kp (fun _ => False) W3 w4 := (Kp.alloc (Kp.refl _ W3) _).trans (Kp.of_below hb4)
    have H4 := Lib.hid (H3.out.trans ((Kp.below k4 (Nat.le_refl _) (fun _ _ => id)).mono H3.out.size))
    rw [HFN.out]
    clear hb4 k4 F0 B3 p1 p2 N3 H3 hcv HFN
    go_wp2_with fail
    refine (IC.out _).mono ?_
    rintro e w5 ⟨rfl, rfl⟩
    have HW := Lib.hid (works_any F pe w4 (H.out.below H4.out))
    clear IC
    cases z
    all_goals
      go_wp2_with fail
      refine HW.out.mono ?_
      rintro e wz ⟨rfl, hbz⟩
      have HZ := Lib.hid (H4.out.trans (hbz.mono H4.out.size))
      clear hbz HW
      go_wp2_with fail
      go_ret
      exact ⟨rfl, HZ.out⟩
set_option maxHeartbeats 2000000 in
set_option maxRecDepth 100000 in
theorem walk_FnClassCntrl (F : Interp) (pe : Addr) (c : Int) (w : World) (h : LW F pe w) (hc : 0 ≤ c ∧ c ≤ 255) :
    Calls Tryf.prog 6 #[.int .u8 c] w fun e w' => e = .returned (.bool true) ∧ Below w.heap.size w w' := by
  by_cases h1 : 127 < c
  · have d1 : decide ((127 : Int) < c) = true := by simpa using h1
    clear h
    go_enter Tryf.func6, Tryf.ntmps6
    go_wp2
    go_ret
    exact ⟨rfl, Below.refl _ _⟩
  · obtain ⟨n, rfl⟩ : ∃ n : Nat, c = n := ⟨c.toNat, by omega⟩
    have d1 : decide ((127 : Int) < (n : Int)) = false := by simp; omega
    have hn : n < 128 := by omega
    have hz := zeroRe
    obtain ⟨g, hg1, hgo, hgl, hg4⟩ := one_nm 4 (by omega) (by omega) ⟨#[91, 91, 58, 99, 110, 116, 114, 108, 58, 93, 93]⟩ rfl
    have hgl2 : (Re.pr g).length ≤ 274877906944 := Nat.le_trans hgl (by decide)
    obtain ⟨z, hzq⟩ : ∃ z, inB 4 n = z := ⟨_, rfl⟩
    have hfn : fnd (ByteArray.mk #[UInt8.ofNat n]).data.toList g = z := by rw [← hzq]; exact hg4 n hn
    have HFN := Lib.hid hfn
    have IC : Hid (∀ w, Calls Tryf.prog 19 #[.int .i64 4, .int .u8 n] w fun e w' => e = .returned (.bool z) ∧ w = w') := Lib.hid fun w => by rw [← hzq]; exact inClass_4 n w
    have HI := Lib.hid (impl_g F ⟨#[91, 91, 58, 99, 110, 116, 114, 108, 58, 93, 93]⟩ pe 4 mdE true false false w moE mxE h (by decide) g hg1)
    have HR : Hid (∀ V : World, CT V → Calls Tryf.prog 17 #[.string ⟨(bs (Re.pr g)).toArray⟩] V fun e w' => ∃ c, e = .returned (.tuple #[.agg c, .bool true]) ∧ Nd (fun x => V.heap.size ≤ x) w' 3 Re.no128 (Re.lists g false false) 0 0 c ∧ Below V.heap.size V w') := Lib.hid fun V ct => read_gc g hgo hgl2 V ct
    have H := Lib.hid h
    clear h hg1 hgo hgl hgl2 hg4 hzq hfn h1
    go_enter Tryf.func6, Tryf.ntmps6
    go_wp2_with fail
    refine HI.out.mono ?_
    rintro e w1 ⟨⟨gv, rfl⟩, hb⟩
    have HB := Lib.hid hb
    clear hb HI
    go_wp2_with fail
    refine (HR.out w1 (H.out.ctB HB.out)).mono ?_
    rintro e w2 ⟨c2, rfl, hn2, hb2⟩
    have hcs := hn2.size
    have n3 : nodeAt (w2.alloc (.cells reZ tRe)) (.pointer (some ⟨w2.heap.size, 0, none⟩)) := ⟨_, reZ, rfl, heap_alloc_new w2 _, rfl⟩
    have n4 : oneNode (.agg c2) := ⟨c2, rfl, hcs, hn2.oneC⟩
    have HN := Lib.hid hn2
    have HB2 := Lib.hid (HB.out.trans (hb2.mono HB.out.size))
    clear hn2 hb2 HR
    go_upto_region 5 with fail
    clear n3 n4
    simp only [blkOf, World.setRow_alloc_new]
    obtain ⟨p1, p2⟩ := box_at (w := w2) hcs
    obtain ⟨W3, hW3⟩ : ∃ W3, w2.alloc (.cells c2 tRe) = W3 := ⟨_, rfl⟩
    have k3 : Kp (fun _ => False) w2 W3 := by rw [← hW3]; exact (Kp.refl _ _).alloc _
    have b3 : W3.heap[w2.heap.size]? = some (.cells c2 tRe (0, 0)) := by rw [← hW3]; exact heap_alloc_new w2 _
    rw [hW3] at p1 p2
    rw [hW3]
    clear hW3
    have N3 : Hid (Nd (fun _ => True) W3 3 Re.no128 (Re.lists g false false) 0 0 c2) := Lib.hid ((HN.out.mono (fun _ _ _ => trivial)).kept k3 (fun _ _ => id))
    have H3 := Lib.hid (HB2.out.trans ((Kp.below k3 (Nat.le_refl _) (fun _ _ => id)).mono HB2.out.size))
    have B3 := Lib.hid b3
    clear k3 b3 HN HB2
    have hcv := conv_c1 W3 n (by omega)
    have F0 := Lib.hid (found_g g (W3.alloc (.cells #[.int .u8 n] 5)) c2 ⟨#[UInt8.ofNat n]⟩ (N3.out.kept (Kp.alloc (X := fun _ => False) (Kp.refl _ W3) _) (fun _ _ => id)) (by show 1 ≤ 274877906944; decide))
    go_wp2_with fail
    refine F0.out.mono ?_
    rintro e w4 ⟨rfl, hb4⟩
    have k4 : Kp (fun _ => False) W3 w4 := (Kp.alloc (Kp.refl _ W3) _).trans (Kp.of_below hb4)
    have H4 := Lib.hid (H3.out.trans ((Kp.below k4 (Nat.le_refl _) (fun _ _ => id)).mono H3.out.size))
    rw [HFN.out]
    clear hb4 k4 F0 B3 p1 p2 N3 H3 hcv HFN
    go_wp2_with fail
    refine (IC.out _).mono ?_
    rintro e w5 ⟨rfl, rfl⟩
    have HW := Lib.hid (works_any F pe w4 (H.out.below H4.out))
    clear IC
    cases z
    all_goals
      go_wp2_with fail
      refine HW.out.mono ?_
      rintro e wz ⟨rfl, hbz⟩
      have HZ := Lib.hid (H4.out.trans (hbz.mono H4.out.size))
      clear hbz HW
      go_wp2_with fail
      go_ret
      exact ⟨rfl, HZ.out⟩
set_option maxHeartbeats 2000000 in
set_option maxRecDepth 100000 in
theorem walk_FnClassDigit (F : Interp) (pe : Addr) (c : Int) (w : World) (h : LW F pe w) (hc : 0 ≤ c ∧ c ≤ 255) :
    Calls Tryf.prog 7 #[.int .u8 c] w fun e w' => e = .returned (.bool true) ∧ Below w.heap.size w w' := by
  by_cases h1 : 127 < c
  · have d1 : decide ((127 : Int) < c) = true := by simpa using h1
    clear h
    go_enter Tryf.func7, Tryf.ntmps7
    go_wp2
    go_ret
    exact ⟨rfl, Below.refl _ _⟩
  · obtain ⟨n, rfl⟩ : ∃ n : Nat, c = n := ⟨c.toNat, by omega⟩
    have d1 : decide ((127 : Int) < (n : Int)) = false := by simp; omega
    have hn : n < 128 := by omega
    have hz := zeroRe
    obtain ⟨g, hg1, hgo, hgl, hg4⟩ := one_nm 5 (by omega) (by omega) ⟨#[91, 91, 58, 100, 105, 103, 105, 116, 58, 93, 93]⟩ rfl
    have hgl2 : (Re.pr g).length ≤ 274877906944 := Nat.le_trans hgl (by decide)
    obtain ⟨z, hzq⟩ : ∃ z, inB 5 n = z := ⟨_, rfl⟩
    have hfn : fnd (ByteArray.mk #[UInt8.ofNat n]).data.toList g = z := by rw [← hzq]; exact hg4 n hn
    have HFN := Lib.hid hfn
    have IC : Hid (∀ w, Calls Tryf.prog 19 #[.int .i64 5, .int .u8 n] w fun e w' => e = .returned (.bool z) ∧ w = w') := Lib.hid fun w => by rw [← hzq]; exact inClass_5 n w
    have HI := Lib.hid (impl_g F ⟨#[91, 91, 58, 100, 105, 103, 105, 116, 58, 93, 93]⟩ pe 4 mdE true false false w moE mxE h (by decide) g hg1)
    have HR : Hid (∀ V : World, CT V → Calls Tryf.prog 17 #[.string ⟨(bs (Re.pr g)).toArray⟩] V fun e w' => ∃ c, e = .returned (.tuple #[.agg c, .bool true]) ∧ Nd (fun x => V.heap.size ≤ x) w' 3 Re.no128 (Re.lists g false false) 0 0 c ∧ Below V.heap.size V w') := Lib.hid fun V ct => read_gc g hgo hgl2 V ct
    have H := Lib.hid h
    clear h hg1 hgo hgl hgl2 hg4 hzq hfn h1
    go_enter Tryf.func7, Tryf.ntmps7
    go_wp2_with fail
    refine HI.out.mono ?_
    rintro e w1 ⟨⟨gv, rfl⟩, hb⟩
    have HB := Lib.hid hb
    clear hb HI
    go_wp2_with fail
    refine (HR.out w1 (H.out.ctB HB.out)).mono ?_
    rintro e w2 ⟨c2, rfl, hn2, hb2⟩
    have hcs := hn2.size
    have n3 : nodeAt (w2.alloc (.cells reZ tRe)) (.pointer (some ⟨w2.heap.size, 0, none⟩)) := ⟨_, reZ, rfl, heap_alloc_new w2 _, rfl⟩
    have n4 : oneNode (.agg c2) := ⟨c2, rfl, hcs, hn2.oneC⟩
    have HN := Lib.hid hn2
    have HB2 := Lib.hid (HB.out.trans (hb2.mono HB.out.size))
    clear hn2 hb2 HR
    go_upto_region 5 with fail
    clear n3 n4
    simp only [blkOf, World.setRow_alloc_new]
    obtain ⟨p1, p2⟩ := box_at (w := w2) hcs
    obtain ⟨W3, hW3⟩ : ∃ W3, w2.alloc (.cells c2 tRe) = W3 := ⟨_, rfl⟩
    have k3 : Kp (fun _ => False) w2 W3 := by rw [← hW3]; exact (Kp.refl _ _).alloc _
    have b3 : W3.heap[w2.heap.size]? = some (.cells c2 tRe (0, 0)) := by rw [← hW3]; exact heap_alloc_new w2 _
    rw [hW3] at p1 p2
    rw [hW3]
    clear hW3
    have N3 : Hid (Nd (fun _ => True) W3 3 Re.no128 (Re.lists g false false) 0 0 c2) := Lib.hid ((HN.out.mono (fun _ _ _ => trivial)).kept k3 (fun _ _ => id))
    have H3 := Lib.hid (HB2.out.trans ((Kp.below k3 (Nat.le_refl _) (fun _ _ => id)).mono HB2.out.size))
    have B3 := Lib.hid b3
    clear k3 b3 HN HB2
    have hcv := conv_c1 W3 n (by omega)
    have F0 := Lib.hid (found_g g (W3.alloc (.cells #[.int .u8 n] 5)) c2 ⟨#[UInt8.ofNat n]⟩ (N3.out.kept (Kp.alloc (X := fun _ => False) (Kp.refl _ W3) _) (fun _ _ => id)) (by show 1 ≤ 274877906944; decide))
    go_wp2_with fail
    refine F0.out.mono ?_
    rintro e w4 ⟨rfl, hb4⟩
    have k4 : Kp (fun _ => False) W3 w4 := (Kp.alloc (Kp.refl _ W3) _).trans (Kp.of_below hb4)
    have H4 := Lib.hid (H3.out.trans ((Kp.below k4 (Nat.le_refl _) (fun _ _ => id)).mono H3.out.size))
    rw [HFN.out]
    clear hb4 k4 F0 B3 p1 p2 N3 H3 hcv HFN
    go_wp2_with fail
    refine (IC.out _).mono ?_
    rintro e w5 ⟨rfl, rfl⟩
    have HW := Lib.hid (works_any F pe w4 (H.out.below H4.out))
    clear IC
    cases z
    all_goals
      go_wp2_with fail
      refine HW.out.mono ?_
      rintro e wz ⟨rfl, hbz⟩
      have HZ := Lib.hid (H4.out.trans (hbz.mono H4.out.size))
      clear hbz HW
      go_wp2_with fail
      go_ret
      exact ⟨rfl, HZ.out⟩
set_option maxHeartbeats 2000000 in
set_option maxRecDepth 100000 in
theorem walk_FnClassGraph (F : Interp) (pe : Addr) (c : Int) (w : World) (h : LW F pe w) (hc : 0 ≤ c ∧ c ≤ 255) :
    Calls Tryf.prog 8 #[.int .u8 c] w fun e w' => e = .returned (.bool true) ∧ Below w.heap.size w w' := by
  by_cases h1 : 127 < c
  · have d1 : decide ((127 : Int) < c) = true := by simpa using h1
    clear h
    go_enter Tryf.func8, Tryf.ntmps8
    go_wp2
    go_ret
    exact ⟨rfl, Below.refl _ _⟩
  · obtain ⟨n, rfl⟩ : ∃ n : Nat, c = n := ⟨c.toNat, by omega⟩
    have d1 : decide ((127 : Int) < (n : Int)) = false := by simp; omega
    have hn : n < 128 := by omega
    have hz := zeroRe
    obtain ⟨g, hg1, hgo, hgl, hg4⟩ := one_nm 6 (by omega) (by omega) ⟨#[91, 91, 58, 103, 114, 97, 112, 104, 58, 93, 93]⟩ rfl
    have hgl2 : (Re.pr g).length ≤ 274877906944 := Nat.le_trans hgl (by decide)
    obtain ⟨z, hzq⟩ : ∃ z, inB 6 n = z := ⟨_, rfl⟩
    have hfn : fnd (ByteArray.mk #[UInt8.ofNat n]).data.toList g = z := by rw [← hzq]; exact hg4 n hn
    have HFN := Lib.hid hfn
    have IC : Hid (∀ w, Calls Tryf.prog 19 #[.int .i64 6, .int .u8 n] w fun e w' => e = .returned (.bool z) ∧ w = w') := Lib.hid fun w => by rw [← hzq]; exact inClass_6 n w
    have HI := Lib.hid (impl_g F ⟨#[91, 91, 58, 103, 114, 97, 112, 104, 58, 93, 93]⟩ pe 4 mdE true false false w moE mxE h (by decide) g hg1)
    have HR : Hid (∀ V : World, CT V → Calls Tryf.prog 17 #[.string ⟨(bs (Re.pr g)).toArray⟩] V fun e w' => ∃ c, e = .returned (.tuple #[.agg c, .bool true]) ∧ Nd (fun x => V.heap.size ≤ x) w' 3 Re.no128 (Re.lists g false false) 0 0 c ∧ Below V.heap.size V w') := Lib.hid fun V ct => read_gc g hgo hgl2 V ct
    have H := Lib.hid h
    clear h hg1 hgo hgl hgl2 hg4 hzq hfn h1
    go_enter Tryf.func8, Tryf.ntmps8
    go_wp2_with fail
    refine HI.out.mono ?_
    rintro e w1 ⟨⟨gv, rfl⟩, hb⟩
    have HB := Lib.hid hb
    clear hb HI
    go_wp2_with fail
    refine (HR.out w1 (H.out.ctB HB.out)).mono ?_
    rintro e w2 ⟨c2, rfl, hn2, hb2⟩
    have hcs := hn2.size
    have n3 : nodeAt (w2.alloc (.cells reZ tRe)) (.pointer (some ⟨w2.heap.size, 0, none⟩)) := ⟨_, reZ, rfl, heap_alloc_new w2 _, rfl⟩
    have n4 : oneNode (.agg c2) := ⟨c2, rfl, hcs, hn2.oneC⟩
    have HN := Lib.hid hn2
    have HB2 := Lib.hid (HB.out.trans (hb2.mono HB.out.size))
    clear hn2 hb2 HR
    go_upto_region 5 with fail
    clear n3 n4
    simp only [blkOf, World.setRow_alloc_new]
    obtain ⟨p1, p2⟩ := box_at (w := w2) hcs
    obtain ⟨W3, hW3⟩ : ∃ W3, w2.alloc (.cells c2 tRe) = W3 := ⟨_, rfl⟩
    have k3 : Kp (fun _ => False) w2 W3 := by rw [← hW3]; exact (Kp.refl _ _).alloc _
    have b3 : W3.heap[w2.heap.size]? = some (.cells c2 tRe (0, 0)) := by rw [← hW3]; exact heap_alloc_new w2 _
    rw [hW3] at p1 p2
    rw [hW3]
    clear hW3
    have N3 : Hid (Nd (fun _ => True) W3 3 Re.no128 (Re.lists g false false) 0 0 c2) := Lib.hid ((HN.out.mono (fun _ _ _ => trivial)).kept k3 (fun _ _ => id))
    have H3 := Lib.hid (HB2.out.trans ((Kp.below k3 (Nat.le_refl _) (fun _ _ => id)).mono HB2.out.size))
    have B3 := Lib.hid b3
    clear k3 b3 HN HB2
    have hcv := conv_c1 W3 n (by omega)
    have F0 := Lib.hid (found_g g (W3.alloc (.cells #[.int .u8 n] 5)) c2 ⟨#[UInt8.ofNat n]⟩ (N3.out.kept (Kp.alloc (X := fun _ => False) (Kp.refl _ W3) _) (fun _ _ => id)) (by show 1 ≤ 274877906944; decide))
    go_wp2_with fail
    refine F0.out.mono ?_
    rintro e w4 ⟨rfl, hb4⟩
    have k4 : Kp (fun _ => False) W3 w4 := (Kp.alloc (Kp.refl _ W3) _).trans (Kp.of_below hb4)
    have H4 := Lib.hid (H3.out.trans ((Kp.below k4 (Nat.le_refl _) (fun _ _ => id)).mono H3.out.size))
    rw [HFN.out]
    clear hb4 k4 F0 B3 p1 p2 N3 H3 hcv HFN
    go_wp2_with fail
    refine (IC.out _).mono ?_
    rintro e w5 ⟨rfl, rfl⟩
    have HW := Lib.hid (works_any F pe w4 (H.out.below H4.out))
    clear IC
    cases z
    all_goals
      go_wp2_with fail
      refine HW.out.mono ?_
      rintro e wz ⟨rfl, hbz⟩
      have HZ := Lib.hid (H4.out.trans (hbz.mono H4.out.size))
      clear hbz HW
      go_wp2_with fail
      go_ret
      exact ⟨rfl, HZ.out⟩
set_option maxHeartbeats 2000000 in
set_option maxRecDepth 100000 in
theorem walk_FnClassLower (F : Interp) (pe : Addr) (c : Int) (w : World) (h : LW F pe w) (hc : 0 ≤ c ∧ c ≤ 255) :
    Calls Tryf.prog 9 #[.int .u8 c] w fun e w' => e = .returned (.bool true) ∧ Below w.heap.size w w' := by
  by_cases h1 : 127 < c
  · have d1 : decide ((127 : Int) < c) = true := by simpa using h1
    clear h
    go_enter Tryf.func9, Tryf.ntmps9
    go_wp2
    go_ret
    exact ⟨rfl, Below.refl _ _⟩
  · obtain ⟨n, rfl⟩ : ∃ n : Nat, c = n := ⟨c.toNat, by omega⟩
    have d1 : decide ((127 : Int) < (n : Int)) = false := by simp; omega
    have hn : n < 128 := by omega
    have hz := zeroRe
    obtain ⟨g, hg1, hgo, hgl, hg4⟩ := one_nm 7 (by omega) (by omega) ⟨#[91, 91, 58, 108, 111, 119, 101, 114, 58, 93, 93]⟩ rfl
    have hgl2 : (Re.pr g).length ≤ 274877906944 := Nat.le_trans hgl (by decide)
    obtain ⟨z, hzq⟩ : ∃ z, inB 7 n = z := ⟨_, rfl⟩
    have hfn : fnd (ByteArray.mk #[UInt8.ofNat n]).data.toList g = z := by rw [← hzq]; exact hg4 n hn
    have HFN := Lib.hid hfn
    have IC : Hid (∀ w, Calls Tryf.prog 19 #[.int .i64 7, .int .u8 n] w fun e w' => e = .returned (.bool z) ∧ w = w') := Lib.hid fun w => by rw [← hzq]; exact inClass_7 n w
    have HI := Lib.hid (impl_g F ⟨#[91, 91, 58, 108, 111, 119, 101, 114, 58, 93, 93]⟩ pe 4 mdE true false false w moE mxE h (by decide) g hg1)
    have HR : Hid (∀ V : World, CT V → Calls Tryf.prog 17 #[.string ⟨(bs (Re.pr g)).toArray⟩] V fun e w' => ∃ c, e = .returned (.tuple #[.agg c, .bool true]) ∧ Nd (fun x => V.heap.size ≤ x) w' 3 Re.no128 (Re.lists g false false) 0 0 c ∧ Below V.heap.size V w') := Lib.hid fun V ct => read_gc g hgo hgl2 V ct
    have H := Lib.hid h
    clear h hg1 hgo hgl hgl2 hg4 hzq hfn h1
    go_enter Tryf.func9, Tryf.ntmps9
    go_wp2_with fail
    refine HI.out.mono ?_
    rintro e w1 ⟨⟨gv, rfl⟩, hb⟩
    have HB := Lib.hid hb
    clear hb HI
    go_wp2_with fail
    refine (HR.out w1 (H.out.ctB HB.out)).mono ?_
    rintro e w2 ⟨c2, rfl, hn2, hb2⟩
    have hcs := hn2.size
    have n3 : nodeAt (w2.alloc (.cells reZ tRe)) (.pointer (some ⟨w2.heap.size, 0, none⟩)) := ⟨_, reZ, rfl, heap_alloc_new w2 _, rfl⟩
    have n4 : oneNode (.agg c2) := ⟨c2, rfl, hcs, hn2.oneC⟩
    have HN := Lib.hid hn2
    have HB2 := Lib.hid (HB.out.trans (hb2.mono HB.out.size))
    clear hn2 hb2 HR
    go_upto_region 5 with fail
    clear n3 n4
    simp only [blkOf, World.setRow_alloc_new]
    obtain ⟨p1, p2⟩ := box_at (w := w2) hcs
    obtain ⟨W3, hW3⟩ : ∃ W3, w2.alloc (.cells c2 tRe) = W3 := ⟨_, rfl⟩
    have k3 : Kp (fun _ => False) w2 W3 := by rw [← hW3]; exact (Kp.refl _ _).alloc _
    have b3 : W3.heap[w2.heap.size]? = some (.cells c2 tRe (0, 0)) := by rw [← hW3]; exact heap_alloc_new w2 _
    rw [hW3] at p1 p2
    rw [hW3]
    clear hW3
    have N3 : Hid (Nd (fun _ => True) W3 3 Re.no128 (Re.lists g false false) 0 0 c2) := Lib.hid ((HN.out.mono (fun _ _ _ => trivial)).kept k3 (fun _ _ => id))
    have H3 := Lib.hid (HB2.out.trans ((Kp.below k3 (Nat.le_refl _) (fun _ _ => id)).mono HB2.out.size))
    have B3 := Lib.hid b3
    clear k3 b3 HN HB2
    have hcv := conv_c1 W3 n (by omega)
    have F0 := Lib.hid (found_g g (W3.alloc (.cells #[.int .u8 n] 5)) c2 ⟨#[UInt8.ofNat n]⟩ (N3.out.kept (Kp.alloc (X := fun _ => False) (Kp.refl _ W3) _) (fun _ _ => id)) (by show 1 ≤ 274877906944; decide))
    go_wp2_with fail
    refine F0.out.mono ?_
    rintro e w4 ⟨rfl, hb4⟩
    have k4 : Kp (fun _ => False) W3 w4 := (Kp.alloc (Kp.refl _ W3) _).trans (Kp.of_below hb4)
    have H4 := Lib.hid (H3.out.trans ((Kp.below k4 (Nat.le_refl _) (fun _ _ => id)).mono H3.out.size))
    rw [HFN.out]
    clear hb4 k4 F0 B3 p1 p2 N3 H3 hcv HFN
    go_wp2_with fail
    refine (IC.out _).mono ?_
    rintro e w5 ⟨rfl, rfl⟩
    have HW := Lib.hid (works_any F pe w4 (H.out.below H4.out))
    clear IC
    cases z
    all_goals
      go_wp2_with fail
      refine HW.out.mono ?_
      rintro e wz ⟨rfl, hbz⟩
      have HZ := Lib.hid (H4.out.trans (hbz.mono H4.out.size))
      clear hbz HW
      go_wp2_with fail
      go_ret
      exact ⟨rfl, HZ.out⟩
set_option maxHeartbeats 2000000 in
set_option maxRecDepth 100000 in
theorem walk_FnClassPrint (F : Interp) (pe : Addr) (c : Int) (w : World) (h : LW F pe w) (hc : 0 ≤ c ∧ c ≤ 255) :
    Calls Tryf.prog 10 #[.int .u8 c] w fun e w' => e = .returned (.bool true) ∧ Below w.heap.size w w' := by
  by_cases h1 : 127 < c
  · have d1 : decide ((127 : Int) < c) = true := by simpa using h1
    clear h
    go_enter Tryf.func10, Tryf.ntmps10
    go_wp2
    go_ret
    exact ⟨rfl, Below.refl _ _⟩
  · obtain ⟨n, rfl⟩ : ∃ n : Nat, c = n := ⟨c.toNat, by omega⟩
    have d1 : decide ((127 : Int) < (n : Int)) = false := by simp; omega
    have hn : n < 128 := by omega
    have hz := zeroRe
    obtain ⟨g, hg1, hgo, hgl, hg4⟩ := one_nm 8 (by omega) (by omega) ⟨#[91, 91, 58, 112, 114, 105, 110, 116, 58, 93, 93]⟩ rfl
    have hgl2 : (Re.pr g).length ≤ 274877906944 := Nat.le_trans hgl (by decide)
    obtain ⟨z, hzq⟩ : ∃ z, inB 8 n = z := ⟨_, rfl⟩
    have hfn : fnd (ByteArray.mk #[UInt8.ofNat n]).data.toList g = z := by rw [← hzq]; exact hg4 n hn
    have HFN := Lib.hid hfn
    have IC : Hid (∀ w, Calls Tryf.prog 19 #[.int .i64 8, .int .u8 n] w fun e w' => e = .returned (.bool z) ∧ w = w') := Lib.hid fun w => by rw [← hzq]; exact inClass_8 n w
    have HI := Lib.hid (impl_g F ⟨#[91, 91, 58, 112, 114, 105, 110, 116, 58, 93, 93]⟩ pe 4 mdE true false false w moE mxE h (by decide) g hg1)
    have HR : Hid (∀ V : World, CT V → Calls Tryf.prog 17 #[.string ⟨(bs (Re.pr g)).toArray⟩] V fun e w' => ∃ c, e = .returned (.tuple #[.agg c, .bool true]) ∧ Nd (fun x => V.heap.size ≤ x) w' 3 Re.no128 (Re.lists g false false) 0 0 c ∧ Below V.heap.size V w') := Lib.hid fun V ct => read_gc g hgo hgl2 V ct
    have H := Lib.hid h
    clear h hg1 hgo hgl hgl2 hg4 hzq hfn h1
    go_enter Tryf.func10, Tryf.ntmps10
    go_wp2_with fail
    refine HI.out.mono ?_
    rintro e w1 ⟨⟨gv, rfl⟩, hb⟩
    have HB := Lib.hid hb
    clear hb HI
    go_wp2_with fail
    refine (HR.out w1 (H.out.ctB HB.out)).mono ?_
    rintro e w2 ⟨c2, rfl, hn2, hb2⟩
    have hcs := hn2.size
    have n3 : nodeAt (w2.alloc (.cells reZ tRe)) (.pointer (some ⟨w2.heap.size, 0, none⟩)) := ⟨_, reZ, rfl, heap_alloc_new w2 _, rfl⟩
    have n4 : oneNode (.agg c2) := ⟨c2, rfl, hcs, hn2.oneC⟩
    have HN := Lib.hid hn2
    have HB2 := Lib.hid (HB.out.trans (hb2.mono HB.out.size))
    clear hn2 hb2 HR
    go_upto_region 5 with fail
    clear n3 n4
    simp only [blkOf, World.setRow_alloc_new]
    obtain ⟨p1, p2⟩ := box_at (w := w2) hcs
    obtain ⟨W3, hW3⟩ : ∃ W3, w2.alloc (.cells c2 tRe) = W3 := ⟨_, rfl⟩
    have k3 : Kp (fun _ => False) w2 W3 := by rw [← hW3]; exact (Kp.refl _ _).alloc _
    have b3 : W3.heap[w2.heap.size]? = some (.cells c2 tRe (0, 0)) := by rw [← hW3]; exact heap_alloc_new w2 _
    rw [hW3] at p1 p2
    rw [hW3]
    clear hW3
    have N3 : Hid (Nd (fun _ => True) W3 3 Re.no128 (Re.lists g false false) 0 0 c2) := Lib.hid ((HN.out.mono (fun _ _ _ => trivial)).kept k3 (fun _ _ => id))
    have H3 := Lib.hid (HB2.out.trans ((Kp.below k3 (Nat.le_refl _) (fun _ _ => id)).mono HB2.out.size))
    have B3 := Lib.hid b3
    clear k3 b3 HN HB2
    have hcv := conv_c1 W3 n (by omega)
    have F0 := Lib.hid (found_g g (W3.alloc (.cells #[.int .u8 n] 5)) c2 ⟨#[UInt8.ofNat n]⟩ (N3.out.kept (Kp.alloc (X := fun _ => False) (Kp.refl _ W3) _) (fun _ _ => id)) (by show 1 ≤ 274877906944; decide))
    go_wp2_with fail
    refine F0.out.mono ?_
    rintro e w4 ⟨rfl, hb4⟩
    have k4 : Kp (fun _ => False) W3 w4 := (Kp.alloc (Kp.refl _ W3) _).trans (Kp.of_below hb4)
    have H4 := Lib.hid (H3.out.trans ((Kp.below k4 (Nat.le_refl _) (fun _ _ => id)).mono H3.out.size))
    rw [HFN.out]
    clear hb4 k4 F0 B3 p1 p2 N3 H3 hcv HFN
    go_wp2_with fail
    refine (IC.out _).mono ?_
    rintro e w5 ⟨rfl, rfl⟩
    have HW := Lib.hid (works_any F pe w4 (H.out.below H4.out))
    clear IC
    cases z
    all_goals
      go_wp2_with fail
      refine HW.out.mono ?_
      rintro e wz ⟨rfl, hbz⟩
      have HZ := Lib.hid (H4.out.trans (hbz.mono H4.out.size))
      clear hbz HW
      go_wp2_with fail
      go_ret
      exact ⟨rfl, HZ.out⟩
set_option maxHeartbeats 2000000 in
set_option maxRecDepth 100000 in
theorem walk_FnClassPunct (F : Interp) (pe : Addr) (c : Int) (w : World) (h : LW F pe w) (hc : 0 ≤ c ∧ c ≤ 255) :
    Calls Tryf.prog 11 #[.int .u8 c] w fun e w' => e = .returned (.bool true) ∧ Below w.heap.size w w' := by
  by_cases h1 : 127 < c
  · have d1 : decide ((127 : Int) < c) = true := by simpa using h1
    clear h
    go_enter Tryf.func11, Tryf.ntmps11
    go_wp2
    go_ret
    exact ⟨rfl, Below.refl _ _⟩
  · obtain ⟨n, rfl⟩ : ∃ n : Nat, c = n := ⟨c.toNat, by omega⟩
    have d1 : decide ((127 : Int) < (n : Int)) = false := by simp; omega
    have hn : n < 128 := by omega
    have hz := zeroRe
    obtain ⟨g, hg1, hgo, hgl, hg4⟩ := one_nm 9 (by omega) (by omega) ⟨#[91, 91, 58, 112, 117, 110, 99, 116, 58, 93, 93]⟩ rfl
    have hgl2 : (Re.pr g).length ≤ 274877906944 := Nat.le_trans hgl (by decide)
    obtain ⟨z, hzq⟩ : ∃ z, inB 9 n = z := ⟨_, rfl⟩
    have hfn : fnd (ByteArray.mk #[UInt8.ofNat n]).data.toList g = z := by rw [← hzq]; exact hg4 n hn
    have HFN := Lib.hid hfn
    have IC : Hid (∀ w, Calls Tryf.prog 19 #[.int .i64 9, .int .u8 n] w fun e w' => e = .returned (.bool z) ∧ w = w') := Lib.hid fun w => by rw [← hzq]; exact inClass_9 n w
    have HI := Lib.hid (impl_g F ⟨#[91, 91, 58, 112, 117, 110, 99, 116, 58, 93, 93]⟩ pe 4 mdE true false false w moE mxE h (by decide) g hg1)
    have HR : Hid (∀ V : World, CT V → Calls Tryf.prog 17 #[.string ⟨(bs (Re.pr g)).toArray⟩] V fun e w' => ∃ c, e = .returned (.tuple #[.agg c, .bool true]) ∧ Nd (fun x => V.heap.size ≤ x) w' 3 Re.no128 (Re.lists g false false) 0 0 c ∧ Below V.heap.size V w') := Lib.hid fun V ct => read_gc g hgo hgl2 V ct
    have H := Lib.hid h
    clear h hg1 hgo hgl hgl2 hg4 hzq hfn h1
    go_enter Tryf.func11, Tryf.ntmps11
    go_wp2_with fail
    refine HI.out.mono ?_
    rintro e w1 ⟨⟨gv, rfl⟩, hb⟩
    have HB := Lib.hid hb
    clear hb HI
    go_wp2_with fail
    refine (HR.out w1 (H.out.ctB HB.out)).mono ?_
    rintro e w2 ⟨c2, rfl, hn2, hb2⟩
    have hcs := hn2.size
    have n3 : nodeAt (w2.alloc (.cells reZ tRe)) (.pointer (some ⟨w2.heap.size, 0, none⟩)) := ⟨_, reZ, rfl, heap_alloc_new w2 _, rfl⟩
    have n4 : oneNode (.agg c2) := ⟨c2, rfl, hcs, hn2.oneC⟩
    have HN := Lib.hid hn2
    have HB2 := Lib.hid (HB.out.trans (hb2.mono HB.out.size))
    clear hn2 hb2 HR
    go_upto_region 5 with fail
    clear n3 n4
    simp only [blkOf, World.setRow_alloc_new]
    obtain ⟨p1, p2⟩ := box_at (w := w2) hcs
    obtain ⟨W3, hW3⟩ : ∃ W3, w2.alloc (.cells c2 tRe) = W3 := ⟨_, rfl⟩
    have k3 : Kp (fun _ => False) w2 W3 := by rw [← hW3]; exact (Kp.refl _ _).alloc _
    have b3 : W3.heap[w2.heap.size]? = some (.cells c2 tRe (0, 0)) := by rw [← hW3]; exact heap_alloc_new w2 _
    rw [hW3] at p1 p2
    rw [hW3]
    clear hW3
    have N3 : Hid (Nd (fun _ => True) W3 3 Re.no128 (Re.lists g false false) 0 0 c2) := Lib.hid ((HN.out.mono (fun _ _ _ => trivial)).kept k3 (fun _ _ => id))
    have H3 := Lib.hid (HB2.out.trans ((Kp.below k3 (Nat.le_refl _) (fun _ _ => id)).mono HB2.out.size))
    have B3 := Lib.hid b3
    clear k3 b3 HN HB2
    have hcv := conv_c1 W3 n (by omega)
    have F0 := Lib.hid (found_g g (W3.alloc (.cells #[.int .u8 n] 5)) c2 ⟨#[UInt8.ofNat n]⟩ (N3.out.kept (Kp.alloc (X := fun _ => False) (Kp.refl _ W3) _) (fun _ _ => id)) (by show 1 ≤ 274877906944; decide))
    go_wp2_with fail
    refine F0.out.mono ?_
    rintro e w4 ⟨rfl, hb4⟩
    have k4 : Kp (fun _ => False) W3 w4 := (Kp.alloc (Kp.refl _ W3) _).trans (Kp.of_below hb4)
    have H4 := Lib.hid (H3.out.trans ((Kp.below k4 (Nat.le_refl _) (fun _ _ => id)).mono H3.out.size))
    rw [HFN.out]
    clear hb4 k4 F0 B3 p1 p2 N3 H3 hcv HFN
    go_wp2_with fail
    refine (IC.out _).mono ?_
    rintro e w5 ⟨rfl, rfl⟩
    have HW := Lib.hid (works_any F pe w4 (H.out.below H4.out))
    clear IC
    cases z
    all_goals
      go_wp2_with fail
      refine HW.out.mono ?_
      rintro e wz ⟨rfl, hbz⟩
      have HZ := Lib.hid (H4.out.trans (hbz.mono H4.out.size))
      clear hbz HW
      go_wp2_with fail
      go_ret
      exact ⟨rfl, HZ.out⟩
set_option maxHeartbeats 2000000 in
set_option maxRecDepth 100000 in
theorem walk_FnClassSpace (F : Interp) (pe : Addr) (c : Int) (w : World) (h : LW F pe w) (hc : 0 ≤ c ∧ c ≤ 255) :
    Calls Tryf.prog 12 #[.int .u8 c] w fun e w' => e = .returned (.bool true) ∧ Below w.heap.size w w' := by
  by_cases h1 : 127 < c
  · have d1 : decide ((127 : Int) < c) = true := by simpa using h1
    clear h
    go_enter Tryf.func12, Tryf.ntmps12
    go_wp2
    go_ret
    exact ⟨rfl, Below.refl _ _⟩
  · obtain ⟨n, rfl⟩ : ∃ n : Nat, c = n := ⟨c.toNat, by omega⟩
    have d1 : decide ((127 : Int) < (n : Int)) = false := by simp; omega
    have hn : n < 128 := by omega
    have hz := zeroRe
    obtain ⟨g, hg1, hgo, hgl, hg4⟩ := one_nm 10 (by omega) (by omega) ⟨#[91, 91, 58, 115, 112, 97, 99, 101, 58, 93, 93]⟩ rfl
    have hgl2 : (Re.pr g).length ≤ 274877906944 := Nat.le_trans hgl (by decide)
    obtain ⟨z, hzq⟩ : ∃ z, inB 10 n = z := ⟨_, rfl⟩
    have hfn : fnd (ByteArray.mk #[UInt8.ofNat n]).data.toList g = z := by rw [← hzq]; exact hg4 n hn
    have HFN := Lib.hid hfn
    have IC : Hid (∀ w, Calls Tryf.prog 19 #[.int .i64 10, .int .u8 n] w fun e w' => e = .returned (.bool z) ∧ w = w') := Lib.hid fun w => by rw [← hzq]; exact inClass_10 n w
    have HI := Lib.hid (impl_g F ⟨#[91, 91, 58, 115, 112, 97, 99, 101, 58, 93, 93]⟩ pe 4 mdE true false false w moE mxE h (by decide) g hg1)
    have HR : Hid (∀ V : World, CT V → Calls Tryf.prog 17 #[.string ⟨(bs (Re.pr g)).toArray⟩] V fun e w' => ∃ c, e = .returned (.tuple #[.agg c, .bool true]) ∧ Nd (fun x => V.heap.size ≤ x) w' 3 Re.no128 (Re.lists g false false) 0 0 c ∧ Below V.heap.size V w') := Lib.hid fun V ct => read_gc g hgo hgl2 V ct
    have H := Lib.hid h
    clear h hg1 hgo hgl hgl2 hg4 hzq hfn h1
    go_enter Tryf.func12, Tryf.ntmps12
    go_wp2_with fail
    refine HI.out.mono ?_
    rintro e w1 ⟨⟨gv, rfl⟩, hb⟩
    have HB := Lib.hid hb
    clear hb HI
    go_wp2_with fail
    refine (HR.out w1 (H.out.ctB HB.out)).mono ?_
    rintro e w2 ⟨c2, rfl, hn2, hb2⟩
    have hcs := hn2.size
    have n3 : nodeAt (w2.alloc (.cells reZ tRe)) (.pointer (some ⟨w2.heap.size, 0, none⟩)) := ⟨_, reZ, rfl, heap_alloc_new w2 _, rfl⟩
    have n4 : oneNode (.agg c2) := ⟨c2, rfl, hcs, hn2.oneC⟩
    have HN := Lib.hid hn2
    have HB2 := Lib.hid (HB.out.trans (hb2.mono HB.out.size))
    clear hn2 hb2 HR
    go_upto_region 5 with fail
    clear n3 n4
    simp only [blkOf, World.setRow_alloc_new]
    obtain ⟨p1, p2⟩ := box_at (w := w2) hcs
    obtain ⟨W3, hW3⟩ : ∃ W3, w2.alloc (.cells c2 tRe) = W3 := ⟨_, rfl⟩
    have k3 : Kp (fun _ => False) w2 W3 := by rw [← hW3]; exact (Kp.refl _ _).alloc _
    have b3 : W3.heap[w2.heap.size]? = some (.cells c2 tRe (0, 0)) := by rw [← hW3]; exact heap_alloc_new w2 _
    rw [hW3] at p1 p2
    rw [hW3]
    clear hW3
    have N3 : Hid (Nd (fun _ => True) W3 3 Re.no128 (Re.lists g false false) 0 0 c2) := Lib.hid ((HN.out.mono (fun _ _ _ => trivial)).kept k3 (fun _ _ => id))
    have H3 := Lib.hid (HB2.out.trans ((Kp.below k3 (Nat.le_refl _) (fun _ _ => id)).mono HB2.out.size))
    have B3 := Lib.hid b3
    clear k3 b3 HN HB2
    have hcv := conv_c1 W3 n (by omega)
    have F0 := Lib.hid (found_g g (W3.alloc (.cells #[.int .u8 n] 5)) c2 ⟨#[UInt8.ofNat n]⟩ (N3.out.kept (Kp.alloc (X := fun _ => False) (Kp.refl _ W3) _) (fun _ _ => id)) (by show 1 ≤ 274877906944; decide))
    go_wp2_with fail
    refine F0.out.mono ?_
    rintro e w4 ⟨rfl, hb4⟩
    have k4 : Kp (fun _ => False) W3 w4 := (Kp.alloc (Kp.refl _ W3) _).trans (Kp.of_below hb4)
    have H4 := Lib.hid (H3.out.trans ((Kp.below k4 (Nat.le_refl _) (fun _ _ => id)).mono H3.out.size))
    rw [HFN.out]
    clear hb4 k4 F0 B3 p1 p2 N3 H3 hcv HFN
    go_wp2_with fail
    refine (IC.out _).mono ?_
    rintro e w5 ⟨rfl, rfl⟩
    have HW := Lib.hid (works_any F pe w4 (H.out.below H4.out))
    clear IC
    cases z
    all_goals
      go_wp2_with fail
      refine HW.out.mono ?_
      rintro e wz ⟨rfl, hbz⟩
      have HZ := Lib.hid (H4.out.trans (hbz.mono H4.out.size))
      clear hbz HW
      go_wp2_with fail
      go_ret
      exact ⟨rfl, HZ.out⟩
set_option maxHeartbeats 2000000 in
set_option maxRecDepth 100000 in
theorem walk_FnClassUpper (F : Interp) (pe : Addr) (c : Int) (w : World) (h : LW F pe w) (hc : 0 ≤ c ∧ c ≤ 255) :
    Calls Tryf.prog 13 #[.int .u8 c] w fun e w' => e = .returned (.bool true) ∧ Below w.heap.size w w' := by
  by_cases h1 : 127 < c
  · have d1 : decide ((127 : Int) < c) = true := by simpa using h1
    clear h
    go_enter Tryf.func13, Tryf.ntmps13
    go_wp2
    go_ret
    exact ⟨rfl, Below.refl _ _⟩
  · obtain ⟨n, rfl⟩ : ∃ n : Nat, c = n := ⟨c.toNat, by omega⟩
    have d1 : decide ((127 : Int) < (n : Int)) = false := by simp; omega
    have hn : n < 128 := by omega
    have hz := zeroRe
    obtain ⟨g, hg1, hgo, hgl, hg4⟩ := one_nm 11 (by omega) (by omega) ⟨#[91, 91, 58, 117, 112, 112, 101, 114, 58, 93, 93]⟩ rfl
    have hgl2 : (Re.pr g).length ≤ 274877906944 := Nat.le_trans hgl (by decide)
    obtain ⟨z, hzq⟩ : ∃ z, inB 11 n = z := ⟨_, rfl⟩
    have hfn : fnd (ByteArray.mk #[UInt8.ofNat n]).data.toList g = z := by rw [← hzq]; exact hg4 n hn
    have HFN := Lib.hid hfn
    have IC : Hid (∀ w, Calls Tryf.prog 19 #[.int .i64 11, .int .u8 n] w fun e w' => e = .returned (.bool z) ∧ w = w') := Lib.hid fun w => by rw [← hzq]; exact inClass_11 n w
    have HI := Lib.hid (impl_g F ⟨#[91, 91, 58, 117, 112, 112, 101, 114, 58, 93, 93]⟩ pe 4 mdE true false false w moE mxE h (by decide) g hg1)
    have HR : Hid (∀ V : World, CT V → Calls Tryf.prog 17 #[.string ⟨(bs (Re.pr g)).toArray⟩] V fun e w' => ∃ c, e = .returned (.tuple #[.agg c, .bool true]) ∧ Nd (fun x => V.heap.size ≤ x) w' 3 Re.no128 (Re.lists g false false) 0 0 c ∧ Below V.heap.size V w') := Lib.hid fun V ct => read_gc g hgo hgl2 V ct
    have H := Lib.hid h
    clear h hg1 hgo hgl hgl2 hg4 hzq hfn h1
    go_enter Tryf.func13, Tryf.ntmps13
    go_wp2_with fail
    refine HI.out.mono ?_
    rintro e w1 ⟨⟨gv, rfl⟩, hb⟩
    have HB := Lib.hid hb
    clear hb HI
    go_wp2_with fail
    refine (HR.out w1 (H.out.ctB HB.out)).mono ?_
    rintro e w2 ⟨c2, rfl, hn2, hb2⟩
    have hcs := hn2.size
    have n3 : nodeAt (w2.alloc (.cells reZ tRe)) (.pointer (some ⟨w2.heap.size, 0, none⟩)) := ⟨_, reZ, rfl, heap_alloc_new w2 _, rfl⟩
    have n4 : oneNode (.agg c2) := ⟨c2, rfl, hcs, hn2.oneC⟩
    have HN := Lib.hid hn2
    have HB2 := Lib.hid (HB.out.trans (hb2.mono HB.out.size))
    clear hn2 hb2 HR
    go_upto_region 5 with fail
    clear n3 n4
    simp only [blkOf, World.setRow_alloc_new]
    obtain ⟨p1, p2⟩ := box_at (w := w2) hcs
    obtain ⟨W3, hW3⟩ : ∃ W3, w2.alloc (.cells c2 tRe) = W3 := ⟨_, rfl⟩
    have k3 : Kp (fun _ => False) w2 W3 := by rw [← hW3]; exact (Kp.refl _ _).alloc _
    have b3 : W3.heap[w2.heap.size]? = some (.cells c2 tRe (0, 0)) := by rw [← hW3]; exact heap_alloc_new w2 _
    rw [hW3] at p1 p2
    rw [hW3]
    clear hW3
    have N3 : Hid (Nd (fun _ => True) W3 3 Re.no128 (Re.lists g false false) 0 0 c2) := Lib.hid ((HN.out.mono (fun _ _ _ => trivial)).kept k3 (fun _ _ => id))
    have H3 := Lib.hid (HB2.out.trans ((Kp.below k3 (Nat.le_refl _) (fun _ _ => id)).mono HB2.out.size))
    have B3 := Lib.hid b3
    clear k3 b3 HN HB2
    have hcv := conv_c1 W3 n (by omega)
    have F0 := Lib.hid (found_g g (W3.alloc (.cells #[.int .u8 n] 5)) c2 ⟨#[UInt8.ofNat n]⟩ (N3.out.kept (Kp.alloc (X := fun _ => False) (Kp.refl _ W3) _) (fun _ _ => id)) (by show 1 ≤ 274877906944; decide))
    go_wp2_with fail
    refine F0.out.mono ?_
    rintro e w4 ⟨rfl, hb4⟩
    have k4 : Kp (fun _ => False) W3 w4 := (Kp.alloc (Kp.refl _ W3) _).trans (Kp.of_below hb4)
    have H4 := Lib.hid (H3.out.trans ((Kp.below k4 (Nat.le_refl _) (fun _ _ => id)).mono H3.out.size))
    rw [HFN.out]
    clear hb4 k4 F0 B3 p1 p2 N3 H3 hcv HFN
    go_wp2_with fail
    refine (IC.out _).mono ?_
    rintro e w5 ⟨rfl, rfl⟩
    have HW := Lib.hid (works_any F pe w4 (H.out.below H4.out))
    clear IC
    cases z
    all_goals
      go_wp2_with fail
      refine HW.out.mono ?_
      rintro e wz ⟨rfl, hbz⟩
      have HZ := Lib.hid (H4.out.trans (hbz.mono H4.out.size))
      clear hbz HW
      go_wp2_with fail
      go_ret
      exact ⟨rfl, HZ.out⟩
set_option maxHeartbeats 2000000 in
set_option maxRecDepth 100000 in
theorem walk_FnClassXdigit (F : Interp) (pe : Addr) (c : Int) (w : World) (h : LW F pe w) (hc : 0 ≤ c ∧ c ≤ 255) :
    Calls Tryf.prog 14 #[.int .u8 c] w fun e w' => e = .returned (.bool true) ∧ Below w.heap.size w w' := by
  by_cases h1 : 127 < c
  · have d1 : decide ((127 : Int) < c) = true := by simpa using h1
    clear h
    go_enter Tryf.func14, Tryf.ntmps14
    go_wp2
    go_ret
    exact ⟨rfl, Below.refl _ _⟩
  · obtain ⟨n, rfl⟩ : ∃ n : Nat, c = n := ⟨c.toNat, by omega⟩
    have d1 : decide ((127 : Int) < (n : Int)) = false := by simp; omega
    have hn : n < 128 := by omega
    have hz := zeroRe
    obtain ⟨g, hg1, hgo, hgl, hg4⟩ := one_nm 12 (by omega) (by omega) ⟨#[91, 91, 58, 120, 100, 105, 103, 105, 116, 58, 93, 93]⟩ rfl
    have hgl2 : (Re.pr g).length ≤ 274877906944 := Nat.le_trans hgl (by decide)
    obtain ⟨z, hzq⟩ : ∃ z, inB 12 n = z := ⟨_, rfl⟩
    have hfn : fnd (ByteArray.mk #[UInt8.ofNat n]).data.toList g = z := by rw [← hzq]; exact hg4 n hn
    have HFN := Lib.hid hfn
    have IC : Hid (∀ w, Calls Tryf.prog 19 #[.int .i64 12, .int .u8 n] w fun e w' => e = .returned (.bool z) ∧ w = w') := Lib.hid fun w => by rw [← hzq]; exact inClass_12 n w
    have HI := Lib.hid (impl_g F ⟨#[91, 91, 58, 120, 100, 105, 103, 105, 116, 58, 93, 93]⟩ pe 4 mdE true false false w moE mxE h (by decide) g hg1)
    have HR : Hid (∀ V : World, CT V → Calls Tryf.prog 17 #[.string ⟨(bs (Re.pr g)).toArray⟩] V fun e w' => ∃ c, e = .returned (.tuple #[.agg c, .bool true]) ∧ Nd (fun x => V.heap.size ≤ x) w' 3 Re.no128 (Re.lists g false false) 0 0 c ∧ Below V.heap.size V w') := Lib.hid fun V ct => read_gc g hgo hgl2 V ct
    have H := Lib.hid h
    clear h hg1 hgo hgl hgl2 hg4 hzq hfn h1
    go_enter Tryf.func14, Tryf.ntmps14
    go_wp2_with fail
    refine HI.out.mono ?_
    rintro e w1 ⟨⟨gv, rfl⟩, hb⟩
    have HB := Lib.hid hb
    clear hb HI
    go_wp2_with fail
    refine (HR.out w1 (H.out.ctB HB.out)).mono ?_
    rintro e w2 ⟨c2, rfl, hn2, hb2⟩
    have hcs := hn2.size
    have n3 : nodeAt (w2.alloc (.cells reZ tRe)) (.pointer (some ⟨w2.heap.size, 0, none⟩)) := ⟨_, reZ, rfl, heap_alloc_new w2 _, rfl⟩
    have n4 : oneNode (.agg c2) := ⟨c2, rfl, hcs, hn2.oneC⟩
    have HN := Lib.hid hn2
    have HB2 := Lib.hid (HB.out.trans (hb2.mono HB.out.size))
    clear hn2 hb2 HR
    go_upto_region 5 with fail
    clear n3 n4
    simp only [blkOf, World.setRow_alloc_new]
    obtain ⟨p1, p2⟩ := box_at (w := w2) hcs
    obtain ⟨W3, hW3⟩ : ∃ W3, w2.alloc (.cells c2 tRe) = W3 := ⟨_, rfl⟩
    have k3 : Kp (fun _ => False) w2 W3 := by rw [← hW3]; exact (Kp.refl _ _).alloc _
    have b3 : W3.heap[w2.heap.size]? = some (.cells c2 tRe (0, 0)) := by rw [← hW3]; exact heap_alloc_new w2 _
    rw [hW3] at p1 p2
    rw [hW3]
    clear hW3
    have N3 : Hid (Nd (fun _ => True) W3 3 Re.no128 (Re.lists g false false) 0 0 c2) := Lib.hid ((HN.out.mono (fun _ _ _ => trivial)).kept k3 (fun _ _ => id))
    have H3 := Lib.hid (HB2.out.trans ((Kp.below k3 (Nat.le_refl _) (fun _ _ => id)).mono HB2.out.size))
    have B3 := Lib.hid b3
    clear k3 b3 HN HB2
    have hcv := conv_c1 W3 n (by omega)
    have F0 := Lib.hid (found_g g (W3.alloc (.cells #[.int .u8 n] 5)) c2 ⟨#[UInt8.ofNat n]⟩ (N3.out.kept (Kp.alloc (X := fun _ => False) (Kp.refl _ W3) _) (fun _ _ => id)) (by show 1 ≤ 274877906944; decide))
    go_wp2_with fail
    refine F0.out.mono ?_
    rintro e w4 ⟨rfl, hb4⟩
    have k4 : Kp (fun _ => False) W3 w4 := (Kp.alloc (Kp.refl _ W3) _).trans (Kp.of_below hb4)
    have H4 := Lib.hid (H3.out.trans ((Kp.below k4 (Nat.le_refl _) (fun _ _ => id)).mono H3.out.size))
    rw [HFN.out]
    clear hb4 k4 F0 B3 p1 p2 N3 H3 hcv HFN
    go_wp2_with fail
    refine (IC.out _).mono ?_
    rintro e w5 ⟨rfl, rfl⟩
    have HW := Lib.hid (works_any F pe w4 (H.out.below H4.out))
    clear IC
    cases z
    all_goals
      go_wp2_with fail
      refine HW.out.mono ?_
      rintro e wz ⟨rfl, hbz⟩
      have HZ := Lib.hid (H4.out.trans (hbz.mono H4.out.size))
      clear hbz HW
      go_wp2_with fail
      go_ret
      exact ⟨rfl, HZ.out⟩
end Go.Proofs.YtonifkkdokaooaaFmt
