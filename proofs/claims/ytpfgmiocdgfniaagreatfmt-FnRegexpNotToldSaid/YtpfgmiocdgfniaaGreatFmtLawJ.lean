/- Walk: laws.FnRegexpNot. Printed by gen_lawh.py. -/
import Derived.Test.YtpfgmiocdgfniaaGreatFmtP41
import Derived.Test.YtpfgmiocdgfniaaGreatFmtP39
import Derived.Test.YtpfgmiocdgfniaaGreatFmtP40
namespace Go.Proofs.YtpfgmiocdgfniaaGreatFmt
open Go.RowKit Go.Extern.Stop Go.Stop Go.Extern
open Re (Fo G CI fnd asc)
set_option linter.unusedVariables false

attribute [local go_sem ↓] ld_eq st_eq
attribute [local go_sem] run_ldAt run_stRe
set_option maxHeartbeats 4000000 in
set_option maxRecDepth 100000 in
theorem in_FnRegexpNot (F : Interp) (pe : Addr) (a : Option Addr) (len cap : Nat) (its : List It) (n : Nat) (w : World) (h : LW F pe w) (hi : ItemsAt w (.slice a len cap) its) (hlen : its.length = len) (hl : len ≤ 2147483647) (hn : 32 ≤ n ∧ n ≤ 126) (hok : Pat.okP 0 false false 0 ([clP false its] : List PF) = true) :
    Calls Tryz.prog 5 #[.slice a len cap, .int .u8 n] w fun e w' => e = .returned (.bool true) ∧ Below w.heap.size w w' := by
  have hz := zeroRe
  have d1 : decide ((2147483647 : Int) < (len : Int)) = false := by simp; omega
  have c1 : decide ((n : Int) < 32) = false := by simp; omega
  have c2 : decide ((126 : Int) < (n : Int)) = false := by simp; omega
  obtain ⟨hit, hne⟩ := clP_not _ _ hok
  have hok2 := clP_ok true its hit hne
  have hwf := items_wf hi
  obtain ⟨g, hg1, hgo, hgl, hg4⟩ := items_one false its hit hne hwf
  obtain ⟨k, hk1, hko, hkl, hk4⟩ := items_one true its hit hne hwf
  have hpl := clP_len false its hit
  have hpl2 := clP_len true its hit
  have hgl2 : (Re.pr g).length ≤ 274877906944 := by omega
  have hkl2 : (Re.pr k).length ≤ 274877906944 := by omega
  obtain ⟨z, hz1⟩ : ∃ z, inI its n false = z := ⟨_, rfl⟩
  have fg : fnd (ByteArray.mk #[UInt8.ofNat n]).data.toList g = z := by
    rw [show (ByteArray.mk #[UInt8.ofNat n]).data.toList = [UInt8.ofNat n] from rfl, hg4 n (by omega), hz1]; cases z <;> rfl
  have fk : fnd (ByteArray.mk #[UInt8.ofNat n]).data.toList k = !z := by
    rw [show (ByteArray.mk #[UInt8.ofNat n]).data.toList = [UInt8.ofNat n] from rfl, hk4 n (by omega), hz1]; cases z <;> rfl
  have FG := Lib.hid fg
  have FK := Lib.hid fk
  obtain ⟨P, hP⟩ : ∃ P : ByteArray, P = ⟨(Pat.printP 0 ([clP false its] : List PF)).toArray⟩ := ⟨_, rfl⟩
  obtain ⟨P2, hP2⟩ : ∃ P : ByteArray, P = ⟨(Pat.printP 0 ([clP true its] : List PF)).toArray⟩ := ⟨_, rfl⟩
  have hPs : P.size ≤ 4398046511104 := by rw [hP, Pat.size_mk]; omega
  have hPs2 : P2.size ≤ 4398046511104 := by rw [hP2, Pat.size_mk]; omega
  rw [← hP] at hg1
  rw [← hP2] at hk1
  obtain ⟨W1, hW1⟩ : ∃ W, w.alloc (.cells #[.int .i64 4, .string ⟨#[]⟩, .bool false, .slice a len cap, .int .u8 0, .slice none 0 0] 41) = W := ⟨_, rfl⟩
  have hb1 : Below w.heap.size w W1 := by rw [← hW1]; exact (Below.refl _ _).alloc (Nat.le_refl _) _
  have hs1 : W1.heap.size = w.heap.size + 1 := by rw [← hW1]; simp
  obtain ⟨W, hW⟩ : ∃ W, W1.alloc (.cells #[.int .i64 4, .string ⟨#[]⟩, .bool true, .slice a len cap, .int .u8 0, .slice none 0 0] 41) = W := ⟨_, rfl⟩
  have hb2 : Below W1.heap.size W1 W := by rw [← hW]; exact (Below.refl _ _).alloc (Nat.le_refl _) _
  have hbW : Below w.heap.size w W := hb1.trans (hb2.mono hb1.size)
  have lin : PiecesAt 0 W (.slice (some ⟨w.heap.size, 0, none⟩) 1 1) ([clP false its] : List PF) := PiecesAt.kept hb2 0 (by rw [← hW1]; exact lit_items w _ false _ its hi)
  have lout : PiecesAt 0 W (.slice (some ⟨w.heap.size + 1, 0, none⟩) 1 1) ([clP true its] : List PF) := by
    have := lit_items W1 41 true _ its (ItemsAt.kept hb1 hi)
    rwa [hW, hs1] at this
  rw [← hW1] at hW
  have HW := Lib.hid hW
  have HPO : Hid (Calls Tryz.prog 12 #[.slice (some ⟨w.heap.size, 0, none⟩) 1 1, .bool false, .bool false, .int .i64 0] W fun e w' => e = .returned (.bool true) ∧ Below W.heap.size W w') := Lib.hid (by
    have := piecesOk_any false false 0 0 _ ([clP false its] : List PF) W lin (by omega)
    rwa [hok] at this)
  have HPR : Hid (∀ V, Below W.heap.size W V → Calls Tryz.prog 13 #[.slice (some ⟨w.heap.size, 0, none⟩) 1 1] V fun e w' => e = .returned (.string P) ∧ Below V.heap.size V w') := Lib.hid fun V hb => by
    rw [hP]
    exact print_any false false 0 0 _ ([clP false its] : List PF) V (names_ct (h.below (hbW.trans (hb.mono hbW.size))).ct) (PiecesAt.kept hb 0 lin) hok (by omega)
  have HPR2 : Hid (∀ V, Below W.heap.size W V → Calls Tryz.prog 13 #[.slice (some ⟨w.heap.size + 1, 0, none⟩) 1 1] V fun e w' => e = .returned (.string P2) ∧ Below V.heap.size V w') := Lib.hid fun V hb => by
    rw [hP2]
    exact print_any false false 0 0 _ ([clP true its] : List PF) V (names_ct (h.below (hbW.trans (hb.mono hbW.size))).ct) (PiecesAt.kept hb 0 lout) hok2 (by omega)
  have HI : Hid (∀ V, Below w.heap.size w V → Calls Tryz.prog 7 #[.string P, .int .u64 4] V fun e w' => (∃ gv, e = .returned (.tuple #[.string ⟨(bs (Re.pr g)).toArray⟩, .int .i64 0, gv])) ∧ Below V.heap.size V w') :=
    Lib.hid fun V hb => impl_g F P pe 4 mdE true false false V moE mxE (h.below hb) hPs g hg1
  have HI2 : Hid (∀ V, Below w.heap.size w V → Calls Tryz.prog 7 #[.string P2, .int .u64 4] V fun e w' => (∃ gv, e = .returned (.tuple #[.string ⟨(bs (Re.pr k)).toArray⟩, .int .i64 0, gv])) ∧ Below V.heap.size V w') :=
    Lib.hid fun V hb => impl_g F P2 pe 4 mdE true false false V moE mxE (h.below hb) hPs2 k hk1
  have HR : Hid (∀ V : World, CT V → Calls Tryz.prog 9 #[.string ⟨(bs (Re.pr g)).toArray⟩] V fun e w' => ∃ c, e = .returned (.tuple #[.agg c, .bool true]) ∧ Nd (fun x => V.heap.size ≤ x) w' 3 Re.no128 (Re.lists g false false) 0 0 c ∧ Below V.heap.size V w') := Lib.hid fun V ct => read_gc g hgo hgl2 V ct
  have HR2 : Hid (∀ V : World, CT V → Calls Tryz.prog 9 #[.string ⟨(bs (Re.pr k)).toArray⟩] V fun e w' => ∃ c, e = .returned (.tuple #[.agg c, .bool true]) ∧ Nd (fun x => V.heap.size ≤ x) w' 3 Re.no128 (Re.lists k false false) 0 0 c ∧ Below V.heap.size V w') := Lib.hid fun V ct => read_gc k hko hkl2 V ct
  have H := Lib.hid h
  have HBW := Lib.hid hbW
  clear h hok hok2 hit hne hwf hg1 hgo hgl hgl2 hg4 hk1 hko hkl hkl2 hk4 hpl hpl2 fg fk hP hP2 hPs hPs2 lin lout hW hW1 hb1 hb2 hs1 hbW hi hz1
  go_enter Tryz.func5, Tryz.ntmps5
  go_wp2_with fail
  rw [HW.out]
  refine HPO.out.mono ?_
  rintro e w1 ⟨rfl, h1⟩
  have H1 := Lib.hid h1
  clear h1 HPO
  go_wp2_with fail
  refine (HPR.out _ H1.out).mono ?_
  rintro e w2 ⟨rfl, h2⟩
  have H2 := Lib.hid (H1.out.trans (h2.mono H1.out.size))
  clear h2 HPR H1
  go_wp2_with fail
  refine (HI.out _ (HBW.out.trans (H2.out.mono HBW.out.size))).mono ?_
  rintro e w3 ⟨⟨gv, rfl⟩, h3⟩
  have H3 := Lib.hid (H2.out.trans (h3.mono H2.out.size))
  clear h3 HI H2
  go_wp2_with fail
  refine (HPR2.out _ H3.out).mono ?_
  rintro e w4 ⟨rfl, h4⟩
  have H4 := Lib.hid (HBW.out.trans ((H3.out.trans (h4.mono H3.out.size)).mono HBW.out.size))
  clear h4 HPR2 H3 HBW
  go_wp2_with fail
  refine (HI2.out _ H4.out).mono ?_
  rintro e w5 ⟨⟨kv, rfl⟩, h5⟩
  have H5 := Lib.hid (H4.out.trans (h5.mono H4.out.size))
  clear h5 HI2 H4
  go_wp2_with fail
  refine (HR.out w5 (H.out.ctB H5.out)).mono ?_
  rintro e w6 ⟨c3, rfl, hn3, h6⟩
  have hcs := hn3.size
  have n3 : nodeAt (w6.alloc (.cells reZ tRe)) (.pointer (some ⟨w6.heap.size, 0, none⟩)) := ⟨_, reZ, rfl, heap_alloc_new w6 _, rfl⟩
  have n4 : oneNode (.agg c3) := ⟨c3, rfl, hcs, hn3.oneC⟩
  have HN := Lib.hid hn3
  have H6 := Lib.hid (H5.out.trans (h6.mono H5.out.size))
  clear hn3 h6 HR H5
  go_upto_region 10 with fail
  clear n3 n4
  simp only [blkOf, World.setRow_alloc_new]
  obtain ⟨W3, hW3⟩ : ∃ W3, w6.alloc (.cells c3 tRe) = W3 := ⟨_, rfl⟩
  have k3 : Kp (fun _ => False) w6 W3 := by rw [← hW3]; exact (Kp.refl _ _).alloc _
  have b3 : W3.heap[w6.heap.size]? = some (.cells c3 tRe (0, 0)) := by rw [← hW3]; exact heap_alloc_new w6 _
  rw [hW3]
  clear hW3
  have N3 : Hid (Nd (fun _ => True) W3 3 Re.no128 (Re.lists g false false) 0 0 c3) := Lib.hid ((HN.out.mono (fun _ _ _ => trivial)).kept k3 (fun _ _ => id))
  have B3 := Lib.hid b3
  have H7 := Lib.hid (H6.out.trans ((Kp.below k3 (Nat.le_refl _) (fun _ _ => id)).mono H6.out.size))
  clear k3 b3 HN H6
  go_wp2_with fail
  refine (HR2.out W3 (H.out.ctB H7.out)).mono ?_
  rintro e w8 ⟨c4, rfl, hn4, h8⟩
  have hcs4 := hn4.size
  have n3 : nodeAt (w8.alloc (.cells reZ tRe)) (.pointer (some ⟨w8.heap.size, 0, none⟩)) := ⟨_, reZ, rfl, heap_alloc_new w8 _, rfl⟩
  have n4 : oneNode (.agg c4) := ⟨c4, rfl, hcs4, hn4.oneC⟩
  have HN := Lib.hid hn4
  have N8 := Lib.hid (N3.out.kept (Kp.of_below (X := fun _ => False) h8) (fun _ _ => id))
  have B8 := Lib.hid ((Kp.of_below (X := fun _ => False) h8).heap id B3.out)
  have H8 := Lib.hid (H7.out.trans (h8.mono H7.out.size))
  clear hn4 h8 HR2 H7 N3 B3
  go_upto_region 11 with fail
  clear n3 n4
  simp only [blkOf, World.setRow_alloc_new]
  obtain ⟨W4, hW4⟩ : ∃ W4, w8.alloc (.cells c4 tRe) = W4 := ⟨_, rfl⟩
  have k4 : Kp (fun _ => False) w8 W4 := by rw [← hW4]; exact (Kp.refl _ _).alloc _
  have b4 : W4.heap[w8.heap.size]? = some (.cells c4 tRe (0, 0)) := by rw [← hW4]; exact heap_alloc_new w8 _
  rw [hW4]
  clear hW4
  have N4 : Hid (Nd (fun _ => True) W4 3 Re.no128 (Re.lists k false false) 0 0 c4) := Lib.hid ((HN.out.mono (fun _ _ _ => trivial)).kept k4 (fun _ _ => id))
  have N9 := Lib.hid (N8.out.kept k4 (fun _ _ => id))
  have b3 := k4.heap id B8.out
  have H9 := Lib.hid (H8.out.trans ((Kp.below k4 (Nat.le_refl _) (fun _ _ => id)).mono H8.out.size))
  have B3 := Lib.hid b3
  have B4 := Lib.hid b4
  clear k4 b3 b4 HN H8 N8 B8
  have hcv := conv_c1 W4 n (by omega)
  obtain ⟨W5, hW5⟩ : ∃ W5, W4.alloc (.cells #[.int .u8 n] 5) = W5 := ⟨_, rfl⟩
  have k5 : Kp (fun _ => False) W4 W5 := by rw [← hW5]; exact (Kp.refl _ _).alloc _
  have HS5 : Hid (∀ V, Below W5.heap.size W5 V → reOk V (.pointer (some ⟨w6.heap.size, 0, none⟩)) ∧ reOk V (.pointer (some ⟨w8.heap.size, 0, none⟩)) ∧ reAt V (.pointer (some ⟨w6.heap.size, 0, none⟩)) = c3 ∧ reAt V (.pointer (some ⟨w8.heap.size, 0, none⟩)) = c4) := Lib.hid fun V hb => by
    have kv := k5.trans (Kp.of_below (X := fun _ => False) hb)
    have v3 := kv.heap id B3.out
    have v4 := kv.heap id B4.out
    exact ⟨⟨_, 0, c3, rfl, v3, by omega⟩, ⟨_, 0, c4, rfl, v4, by omega⟩, by rw [reAt_eq v3, List.drop_zero, List.take_of_length_le (by simp; omega)], by rw [reAt_eq v4, List.drop_zero, List.take_of_length_le (by simp; omega)]⟩
  have FX : Hid (∀ V, Below W5.heap.size W5 V → Calls Tryz.prog 10 #[.agg c3, .string ⟨#[UInt8.ofNat n]⟩] V fun e w' => e = .returned (.bool z) ∧ Below V.heap.size V w') := Lib.hid fun V hb => by
    have := found_g g V c3 ⟨#[UInt8.ofNat n]⟩ (N9.out.kept (k5.trans (Kp.of_below (X := fun _ => False) hb)) (fun _ _ => id)) (by show 1 ≤ 274877906944; decide)
    rwa [FG.out] at this
  have FY : Hid (∀ V, Below W5.heap.size W5 V → Calls Tryz.prog 10 #[.agg c4, .string ⟨#[UInt8.ofNat n]⟩] V fun e w' => e = .returned (.bool (!z)) ∧ Below V.heap.size V w') := Lib.hid fun V hb => by
    have := found_g k V c4 ⟨#[UInt8.ofNat n]⟩ (N4.out.kept (k5.trans (Kp.of_below (X := fun _ => False) hb)) (fun _ _ => id)) (by show 1 ≤ 274877906944; decide)
    rwa [FK.out] at this
  have H10 := Lib.hid (H9.out.trans ((Kp.below k5 (Nat.le_refl _) (fun _ _ => id)).mono H9.out.size))
  have HC0 : Hid (Below W5.heap.size W5 W5.drew) := Lib.hid (Below.refl _ _).drew
  have K0 := Lib.hid (HS5.out _ HC0.out)
  have HW5 := Lib.hid hW5
  clear k5 B3 B4 N9 N4 H9 FG FK hcs hcs4 hW5
  cases z
  all_goals
    go_upto_region 12 with fail
    rw [HW5.out]
    clear hcv hz hlen hl hn HW HW5 H
    go_region_held3 (fun w' => reOk w' (.pointer (some ⟨w6.heap.size, 0, none⟩)) ∧ reOk w' (.pointer (some ⟨w8.heap.size, 0, none⟩)) ∧ reAt w' (.pointer (some ⟨w6.heap.size, 0, none⟩)) = c3 ∧ reAt w' (.pointer (some ⟨w8.heap.size, 0, none⟩)) = c4) (first | exact K2.out | exact K1.out | exact K0.out) (first | (go_at_call 10; refine (FY.out _ HC1.out).mono ?_; rintro e wy ⟨rfl, hy⟩; have HC2 := Lib.hid (HC1.out.trans (hy.mono HC1.out.size)); have K2 := Lib.hid (HS5.out _ HC2.out); clear hy) | (go_at_call 10; refine (FX.out _ HC0.out).mono ?_; rintro e wx ⟨rfl, hx⟩; have HC1 := Lib.hid (HC0.out.trans (hx.mono HC0.out.size)); have K1 := Lib.hid (HS5.out _ HC1.out); clear hx))
    all_goals
      go_wp2_with fail
      go_ret
      exact ⟨rfl, H10.out.trans (HC2.out.mono H10.out.size)⟩
set_option maxHeartbeats 2000000 in
set_option maxRecDepth 100000 in
theorem walk_FnRegexpNot (F : Interp) (pe : Addr) (a : Option Addr) (len cap : Nat) (c : Int) (w : World) (h : LW F pe w) (hit : len ≤ 2147483647 → ∃ its : List It, its.length = len ∧ ItemsAt w (.slice a len cap) its) (hc : 0 ≤ c ∧ c ≤ 255) :
    Calls Tryz.prog 5 #[.slice a len cap, .int .u8 c] w fun e w' => e = .returned (.bool true) ∧ Below w.heap.size w w' := by
  obtain ⟨n, rfl⟩ : ∃ n : Nat, c = n := ⟨c.toNat, by omega⟩
  by_cases hl : len ≤ 2147483647
  · have d1 : decide ((2147483647 : Int) < (len : Int)) = false := by simp; omega
    obtain ⟨its, hlen, hi⟩ := hit hl
    clear hit
    obtain ⟨W1, hW1⟩ : ∃ W, w.alloc (.cells #[.int .i64 4, .string ⟨#[]⟩, .bool false, .slice a len cap, .int .u8 0, .slice none 0 0] 41) = W := ⟨_, rfl⟩
    have hb1 : Below w.heap.size w W1 := by rw [← hW1]; exact (Below.refl _ _).alloc (Nat.le_refl _) _
    obtain ⟨W, hW⟩ : ∃ W, W1.alloc (.cells #[.int .i64 4, .string ⟨#[]⟩, .bool true, .slice a len cap, .int .u8 0, .slice none 0 0] 41) = W := ⟨_, rfl⟩
    have hb2 : Below W1.heap.size W1 W := by rw [← hW]; exact (Below.refl _ _).alloc (Nat.le_refl _) _
    have hbW : Below w.heap.size w W := hb1.trans (hb2.mono hb1.size)
    have lin : PiecesAt 0 W (.slice (some ⟨w.heap.size, 0, none⟩) 1 1) ([clP false its] : List PF) := PiecesAt.kept hb2 0 (by rw [← hW1]; exact lit_items w _ false _ its hi)
    have hpo := piecesOk_any false false 0 0 _ ([clP false its] : List PF) W lin (by omega)
    rw [← hW1] at hW
    have HW := Lib.hid hW
    have HBW := Lib.hid hbW
    cases hok : Pat.okP 0 false false 0 ([clP false its] : List PF) with
    | false =>
      rw [hok] at hpo
      have HPO := Lib.hid hpo
      clear hpo hok h lin hW hW1 hb1 hb2 hbW hi hlen
      go_enter Tryz.func5, Tryz.ntmps5
      go_wp2_with fail
      rw [HW.out]
      refine HPO.out.mono ?_
      rintro e w1 ⟨rfl, h1⟩
      have H1 := Lib.hid (HBW.out.trans (h1.mono HBW.out.size))
      clear h1
      go_wp2_with fail
      go_ret
      exact ⟨rfl, H1.out⟩
    | true =>
      by_cases hn : 32 ≤ n ∧ n ≤ 126
      · exact in_FnRegexpNot F pe a len cap its n w h hi hlen hl hn hok
      · rw [hok] at hpo
        have HPO := Lib.hid hpo
        have hd : decide ((n : Int) < 32) = true ∨ (decide ((n : Int) < 32) = false ∧ decide ((126 : Int) < (n : Int)) = true) := by
          by_cases h32 : n < 32
          · exact .inl (by simp; omega)
          · exact .inr ⟨by simp; omega, by simp; omega⟩
        clear hpo hok h lin hW hW1 hb1 hb2 hbW hi hlen hn
        rcases hd with c1 | ⟨c1, c2⟩
        all_goals
          go_enter Tryz.func5, Tryz.ntmps5
          go_wp2_with fail
          rw [HW.out]
          refine HPO.out.mono ?_
          rintro e w1 ⟨rfl, h1⟩
          have H1 := Lib.hid (HBW.out.trans (h1.mono HBW.out.size))
          clear h1
          go_wp2_with fail
          go_ret
          exact ⟨rfl, H1.out⟩
  · have d1 : decide ((2147483647 : Int) < (len : Int)) = true := by simp; omega
    clear h hit
    go_enter Tryz.func5, Tryz.ntmps5
    go_wp2_with fail
    go_ret
    exact ⟨rfl, Below.refl _ _⟩
end Go.Proofs.YtpfgmiocdgfniaaGreatFmt
