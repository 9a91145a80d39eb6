/- Walk: laws.FnRange. Printed by gen_lawh.py. -/
import Derived.Test.YtpfgmiocdgfniaaGreatFmtP41
import Derived.Test.YtpfgmiocdgfniaaGreatFmtP39
import Derived.Test.YtpfgmiocdgfniaaGreatFmtP40
namespace Go.Proofs.YtpfgmiocdgfniaaGreatFmt
open Go.RowKit Go.Extern.Stop Go.Stop Go.Extern
open Re (Fo G CI fnd asc)
set_option linter.unusedVariables false

attribute [local go_sem ↓] ld_eq st_eq
attribute [local go_sem] run_ldAt run_stRe
set_option maxHeartbeats 2000000 in
set_option maxRecDepth 100000 in
theorem in_FnRange (F : Interp) (pe : Addr) (lo hi : Int) (n : Nat) (w : World) (h : LW F pe w) (hl : 0 ≤ lo ∧ lo ≤ 255) (hh : 0 ≤ hi ∧ hi ≤ 255) (hn : 32 ≤ n ∧ n ≤ 126) (hok : Pat.okP 0 false false 0 ([clP false [⟨0, lo, hi⟩]] : List PF) = true) :
    Calls Tryz.prog 4 #[.int .u8 lo, .int .u8 hi, .int .u8 n] w fun e w' => e = .returned (.bool true) ∧ Below w.heap.size w w' := by
  have hz := zeroRe
  have c1 : decide ((n : Int) < 32) = false := by simp; omega
  have c2 : decide ((126 : Int) < (n : Int)) = false := by simp; omega
  obtain ⟨hit, hne⟩ := clP_not _ _ hok
  have hwf : itemsWf [⟨0, lo, hi⟩] := by
    intro i hi2
    rw [List.mem_singleton.1 hi2]; exact ⟨hl, hh⟩
  obtain ⟨g, hg1, hgo, hgl, hg4⟩ := items_one false [⟨0, lo, hi⟩] hit hne hwf
  have hpl := clP_len false [⟨0, lo, hi⟩] hit
  simp only [List.length_singleton] at hpl
  have hgl2 : (Re.pr g).length ≤ 274877906944 := by omega
  obtain ⟨b1, hb1⟩ : ∃ b, decide (lo ≤ (n : Int)) = b := ⟨_, rfl⟩
  obtain ⟨b2, hb2⟩ : ∃ b, decide ((n : Int) ≤ hi) = b := ⟨_, rfl⟩
  have hfn : fnd (ByteArray.mk #[UInt8.ofNat n]).data.toList g = (b1 && b2) := by
    rw [show (ByteArray.mk #[UInt8.ofNat n]).data.toList = [UInt8.ofNat n] from rfl, hg4 n (by omega), inI_range lo hi n (by omega), hb1, hb2]
    cases (b1 && b2) <;> rfl
  have HFN := Lib.hid hfn
  obtain ⟨P, hP⟩ : ∃ P : ByteArray, P = ⟨(Pat.printP 0 ([clP false [⟨0, lo, hi⟩]] : List PF)).toArray⟩ := ⟨_, rfl⟩
  have hPs : P.size ≤ 4398046511104 := by rw [hP, Pat.size_mk]; omega
  rw [← hP] at hg1
  have hlit := lit_range w 37 41 lo hi hl hh
  obtain ⟨W, hW⟩ : ∃ W, (w.alloc (.cells #[.int .i64 0, .int .u8 lo, .int .u8 hi] 37)).alloc (.cells #[.int .i64 4, .string ⟨#[]⟩, .bool false, .slice (some ⟨w.heap.size, 0, none⟩) 1 1, .int .u8 0, .slice none 0 0] 41) = W := ⟨_, rfl⟩
  have hbW : Below w.heap.size w W := by rw [← hW]; exact ((Below.refl _ _).alloc (Nat.le_refl _) _).alloc (by simp) _
  have HW := Lib.hid hW
  rw [hW] at hlit
  have HPO : Hid (Calls Tryz.prog 12 #[.slice (some ⟨w.heap.size + 1, 0, none⟩) 1 1, .bool false, .bool false, .int .i64 0] W fun e w' => e = .returned (.bool true) ∧ Below W.heap.size W w') := Lib.hid (by
    have := piecesOk_any false false 0 0 _ ([clP false [⟨0, lo, hi⟩]] : List PF) W hlit (by omega)
    rwa [hok] at this)
  have HPR : Hid (∀ V, Below W.heap.size W V → Calls Tryz.prog 13 #[.slice (some ⟨w.heap.size + 1, 0, none⟩) 1 1] V fun e w' => e = .returned (.string P) ∧ Below V.heap.size V w') := Lib.hid fun V hb => by
    rw [hP]
    exact print_any false false 0 0 _ ([clP false [⟨0, lo, hi⟩]] : List PF) V (names_ct (h.below (hbW.trans (hb.mono hbW.size))).ct) (PiecesAt.kept hb 0 hlit) hok (by omega)
  have HI : Hid (∀ V, Below w.heap.size w V → Calls Tryz.prog 7 #[.string P, .int .u64 4] V fun e w' => (∃ gv, e = .returned (.tuple #[.string ⟨(bs (Re.pr g)).toArray⟩, .int .i64 0, gv])) ∧ Below V.heap.size V w') :=
    Lib.hid fun V hb => impl_g F P pe 4 mdE true false false V moE mxE (h.below hb) hPs g hg1
  have HR : Hid (∀ V : World, CT V → Calls Tryz.prog 9 #[.string ⟨(bs (Re.pr g)).toArray⟩] V fun e w' => ∃ c, e = .returned (.tuple #[.agg c, .bool true]) ∧ Nd (fun x => V.heap.size ≤ x) w' 3 Re.no128 (Re.lists g false false) 0 0 c ∧ Below V.heap.size V w') := Lib.hid fun V ct => read_gc g hgo hgl2 V ct
  have H := Lib.hid h
  have HBW := Lib.hid hbW
  clear h hok hit hne hwf hg1 hgo hgl hgl2 hg4 hpl hfn hP hPs hlit hW hbW
  go_enter Tryz.func4, Tryz.ntmps4
  go_wp2_with fail
  rw [HW.out]
  refine HPO.out.mono ?_
  rintro e w1 ⟨rfl, h1⟩
  have H1 := Lib.hid h1
  clear h1 HPO
  go_wp2_with fail
  refine (HPR.out _ H1.out).mono ?_
  rintro e w2 ⟨rfl, h2⟩
  have H2 := Lib.hid (HBW.out.trans ((H1.out.trans (h2.mono H1.out.size)).mono HBW.out.size))
  clear h2 HPR H1 HBW
  go_wp2_with fail
  refine (HI.out _ H2.out).mono ?_
  rintro e w3 ⟨⟨gv, rfl⟩, h3⟩
  have H3 := Lib.hid (H2.out.trans (h3.mono H2.out.size))
  clear h3 HI H2
  go_wp2_with fail
  refine (HR.out w3 (H.out.ctB H3.out)).mono ?_
  rintro e w4 ⟨c2, rfl, hn2, h4⟩
  have hcs := hn2.size
  have n3 : nodeAt (w4.alloc (.cells reZ tRe)) (.pointer (some ⟨w4.heap.size, 0, none⟩)) := ⟨_, reZ, rfl, heap_alloc_new w4 _, rfl⟩
  have n4 : oneNode (.agg c2) := ⟨c2, rfl, hcs, hn2.oneC⟩
  have HN := Lib.hid hn2
  have H4 := Lib.hid (H3.out.trans (h4.mono H3.out.size))
  clear hn2 h4 HR H3
  go_upto_region 7 with fail
  clear n3 n4
  simp only [blkOf, World.setRow_alloc_new]
  obtain ⟨p1, p2⟩ := box_at (w := w4) hcs
  obtain ⟨W3, hW3⟩ : ∃ W3, w4.alloc (.cells c2 tRe) = W3 := ⟨_, rfl⟩
  have k3 : Kp (fun _ => False) w4 W3 := by rw [← hW3]; exact (Kp.refl _ _).alloc _
  rw [hW3] at p1 p2
  rw [hW3]
  clear hW3
  have N3 : Hid (Nd (fun _ => True) W3 3 Re.no128 (Re.lists g false false) 0 0 c2) := Lib.hid ((HN.out.mono (fun _ _ _ => trivial)).kept k3 (fun _ _ => id))
  have H5 := Lib.hid (H4.out.trans ((Kp.below k3 (Nat.le_refl _) (fun _ _ => id)).mono H4.out.size))
  clear k3 HN H4
  have hcv := conv_c1 W3 n (by omega)
  have F0 := Lib.hid (found_g g (W3.alloc (.cells #[.int .u8 n] 5)) c2 ⟨#[UInt8.ofNat n]⟩ (N3.out.kept (Kp.alloc (X := fun _ => False) (Kp.refl _ W3) _) (fun _ _ => id)) (by show 1 ≤ 274877906944; decide))
  go_wp2_with fail
  refine F0.out.mono ?_
  rintro e w6 ⟨rfl, h6⟩
  have k6 : Kp (fun _ => False) W3 w6 := (Kp.alloc (Kp.refl _ W3) _).trans (Kp.of_below h6)
  have H6 := Lib.hid (H5.out.trans ((Kp.below k6 (Nat.le_refl _) (fun _ _ => id)).mono H5.out.size))
  rw [HFN.out]
  clear h6 k6 F0 p1 p2 N3 H5 hcv HFN
  have HWK := Lib.hid (works_any F pe w6 (H.out.below H6.out))
  cases b1 <;> cases b2
  all_goals
    go_wp2_with fail
    refine HWK.out.mono ?_
    rintro e wz ⟨rfl, hbz⟩
    have HZ := Lib.hid (H6.out.trans (hbz.mono H6.out.size))
    clear hbz HWK
    go_wp2_with fail
    go_ret
    exact ⟨rfl, HZ.out⟩
set_option maxHeartbeats 2000000 in
set_option maxRecDepth 100000 in
theorem walk_FnRange (F : Interp) (pe : Addr) (lo hi c : Int) (w : World) (h : LW F pe w) (hl : 0 ≤ lo ∧ lo ≤ 255) (hh : 0 ≤ hi ∧ hi ≤ 255) (hc : 0 ≤ c ∧ c ≤ 255) :
    Calls Tryz.prog 4 #[.int .u8 lo, .int .u8 hi, .int .u8 c] w fun e w' => e = .returned (.bool true) ∧ Below w.heap.size w w' := by
  obtain ⟨n, rfl⟩ : ∃ n : Nat, c = n := ⟨c.toNat, by omega⟩
  have hlit := lit_range w 37 41 lo hi hl hh
  obtain ⟨W, hW⟩ : ∃ W, (w.alloc (.cells #[.int .i64 0, .int .u8 lo, .int .u8 hi] 37)).alloc (.cells #[.int .i64 4, .string ⟨#[]⟩, .bool false, .slice (some ⟨w.heap.size, 0, none⟩) 1 1, .int .u8 0, .slice none 0 0] 41) = W := ⟨_, rfl⟩
  have hbW : Below w.heap.size w W := by rw [← hW]; exact ((Below.refl _ _).alloc (Nat.le_refl _) _).alloc (by simp) _
  rw [hW] at hlit
  have hpo := piecesOk_any false false 0 0 _ ([clP false [⟨0, lo, hi⟩]] : List PF) W hlit (by omega)
  have HW := Lib.hid hW
  have HBW := Lib.hid hbW
  cases hok : Pat.okP 0 false false 0 ([clP false [⟨0, lo, hi⟩]] : List PF) with
  | false =>
    rw [hok] at hpo
    have HPO := Lib.hid hpo
    clear hpo hok h hlit hW hbW
    go_enter Tryz.func4, Tryz.ntmps4
    go_wp2_with fail
    rw [HW.out]
    refine HPO.out.mono ?_
    rintro e w1 ⟨rfl, h1⟩
    have H1 := Lib.hid (HBW.out.trans (h1.mono HBW.out.size))
    clear h1
    go_wp2_with fail
    go_ret
    exact ⟨rfl, H1.out⟩
  | true =>
    by_cases hn : 32 ≤ n ∧ n ≤ 126
    · exact in_FnRange F pe lo hi n w h hl hh hn hok
    · rw [hok] at hpo
      have HPO := Lib.hid hpo
      have hd : decide ((n : Int) < 32) = true ∨ (decide ((n : Int) < 32) = false ∧ decide ((126 : Int) < (n : Int)) = true) := by
        by_cases h32 : n < 32
        · exact .inl (by simp; omega)
        · exact .inr ⟨by simp; omega, by simp; omega⟩
      clear hpo hok h hlit hW hbW hn
      rcases hd with c1 | ⟨c1, c2⟩
      all_goals
        go_enter Tryz.func4, Tryz.ntmps4
        go_wp2_with fail
        rw [HW.out]
        refine HPO.out.mono ?_
        rintro e w1 ⟨rfl, h1⟩
        have H1 := Lib.hid (HBW.out.trans (h1.mono HBW.out.size))
        clear h1
        go_wp2_with fail
        go_ret
        exact ⟨rfl, H1.out⟩
end Go.Proofs.YtpfgmiocdgfniaaGreatFmt
