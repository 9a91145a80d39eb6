/- Joined by pack.py: LawX. -/
import Derived.Test.YtjoefmnkbcoblaaFmtP37
/- Walks: laws.FnGroupOpt, FnGroupMany, FnGroupMore, FnGroupJust. Printed by gen_lawx.py. -/
namespace Go.Proofs.YtjoefmnkbcoblaaFmt
open Go.RowKit Go.Extern.Stop Go.Stop Go.Extern
open Re (Fo G nodeE mean falses trues foundE fnd)
set_option linter.unusedVariables false

/-- a word n times -/
def repB (a : ByteArray) (n : Nat) : ByteArray := ⟨(rep a.data.toList n).toArray⟩
theorem repB_list (a : ByteArray) (n : Nat) : (repB a n).data.toList = rep a.data.toList n := by simp [repB]
theorem repB_succ (a : ByteArray) (n : Nat) : repB a n ++ a = repB a (n + 1) := by
  apply ByteArray.ext
  apply Array.ext'
  rw [ByteArray.data_append, Array.toList_append, repB_list, repB_list, rep_snoc]
theorem repB_size (a : ByteArray) (n : Nat) : (repB a n).size = n * a.size := by
  rw [← Pat.size_toList, repB_list, rep_len, Pat.size_toList]
theorem repB_le (a : ByteArray) (n : Nat) (ha : a.size ≤ 2147483647) (hn : n ≤ 20) : (repB a n).size ≤ 42949672940 := by
  rw [repB_size]
  calc n * a.size ≤ 20 * 2147483647 := Nat.mul_le_mul hn ha
    _ = 42949672940 := by decide
theorem mem_rep (l : List UInt8) (c : UInt8) : ∀ n, c ∈ rep l n → c ∈ l
  | 0, h => by cases h
  | n + 1, h => by
    rcases List.mem_append.1 h with h | h
    · exact h
    · exact mem_rep l c n h
theorem rep_inj (l : List UInt8) (hl : 0 < l.length) (n m : Nat) (h : rep l n = rep l m) : n = m := by
  have := congrArg List.length h
  rw [rep_len, rep_len] at this
  exact Nat.eq_of_mul_eq_mul_right hl this
theorem words_128 (a : ByteArray) (hw : Pat.wordL a.data.toList = true) : ∀ c ∈ nums a, c < 128 := fun c hc => (words_lit a hw c hc).1.1
theorem words_w (a : ByteArray) (hw : Pat.wordL a.data.toList = true) : ∀ c ∈ nums a, Pat.wordI (c : Nat) = true := by
  intro c hc
  obtain ⟨b, hb, rfl⟩ := List.mem_map.1 hc
  exact List.all_eq_true.1 hw b hb
theorem gX_rep (a : ByteArray) (hne : 0 < a.size) (hw : Pat.wordL a.data.toList = true) (x : Nat) (hx : x = 63 ∨ x = 42 ∨ x = 43 ∨ x = 64) (n : Nat) :
    fnd (repB a n).data.toList (gX x (nums a)) = decide ((x = 63 → n ≤ 1) ∧ (x = 43 → 1 ≤ n) ∧ (x = 64 → n = 1)) := by
  rw [Bool.eq_iff_iff, gX_found _ x hx _ (words_128 a hw), decide_eq_true_iff, bs_nums, repB_list]
  constructor
  · rintro ⟨m, h1, h2⟩
    obtain rfl := rep_inj a.data.toList (by rw [Pat.size_toList]; exact hne) n m h1
    exact h2
  · intro h; exact ⟨n, rfl, h⟩
theorem gX_dash (a : ByteArray) (hw : Pat.wordL a.data.toList = true) (x : Nat) (hx : x = 63 ∨ x = 42 ∨ x = 43 ∨ x = 64) (n : Nat) :
    fnd (repB a n ++ ByteArray.mk #[45]).data.toList (gX x (nums a)) = false := by
  rw [Bool.eq_false_iff]
  intro h
  obtain ⟨m, h1, _⟩ := (gX_found _ x hx _ (words_128 a hw)).1 h
  rw [bs_nums] at h1
  have h2 : (45 : UInt8) ∈ (repB a n ++ ByteArray.mk #[45]).data.toList := by simp [ByteArray.data_append]
  rw [h1] at h2
  have h3 := List.all_eq_true.1 hw _ (mem_rep _ _ m h2)
  exact absurd h3 (by decide)
theorem sign_par (x : Nat) (hx : x < 256) (a : ByteArray) : ∃ p : ByteArray, ByteArray.mk #[UInt8.ofNat x, 40] ++ a ++ ByteArray.mk #[41] = p ∧ nums p = x :: 40 :: (nums a ++ [41]) ∧ p.size = a.size + 3 := by
  refine ⟨_, rfl, ?_, ?_⟩
  · have e : nums (ByteArray.mk #[UInt8.ofNat x, 40]) = [x, 40] := by simp [nums]; omega
    simp [nums_app, e]
    rfl
  · simp only [size_app]
    show 2 + a.size + 1 = _
    omega
theorem gX_ok (x : Nat) (a : ByteArray) (hw : Pat.wordL a.data.toList = true) : (gX x (nums a)).ok = true ∧ noC (gX x (nums a)) = true ∧ (Re.pr (gX x (nums a))).length ≤ a.size + 20 := by
  have h1 := Re.gl_ok (nums a) .done (fun c hc => (words_lit a hw c hc).2.1) rfl
  have h2 := gl_noC (nums a)
  refine ⟨?_, ?_, ?_⟩
  · simp [gX, Re.G.ok, Re.Ato.ok, h1]
  · simp [gX, noC, h2]
  · have h3 : (Re.prS (suOf x)).length ≤ 1 := by unfold suOf; split; decide; split; decide; split <;> decide
    simp only [gX, Re.pr, Re.pr_gl]
    generalize Re.prS (suOf x) = q at h3 ⊢
    simp [Re.prF, Re.prA, Re.prS, nums_len]
    omega
attribute [local go_sem ↓] ld_eq st_eq
attribute [local go_sem] run_ldAt run_stRe
set_option maxHeartbeats 2000000 in
set_option maxRecDepth 100000 in
theorem walk_FnGroupOpt (F : Interp) (pe : Addr) (a : ByteArray) (n : Int) (w : World) (h : LW F pe w) (ha : a.size ≤ maxLen) :
    Calls Tryf.prog 7 #[.string a, .int .i64 n] w fun e w' => e = .returned (.bool true) ∧ Below w.heap.size w w' := by
  have hw := wordOk_any a w ha
  unfold maxLen at ha
  have hz := zeroRe
  by_cases h1 : a.size ≤ 2147483647
  · have d1 : decide ((2147483647 : Int) < (a.size : Int)) = false := by simp; omega
    cases hwd : Pat.wordL a.data.toList with
    | false =>
      rw [hwd] at hw
      have HW0 := Lib.hid hw
      clear hw hwd h
      go_enter Tryf.func7, Tryf.ntmps7
      go_wp2_with fail
      refine HW0.out.mono ?_
      rintro e w' ⟨rfl, rfl⟩
      go_wp2_with fail
      go_ret
      exact ⟨rfl, Below.refl _ _⟩
    | true =>
      rw [hwd] at hw
      have HW0 := Lib.hid hw
      by_cases hne : a.size = 0
      · have hae : a = ByteArray.mk #[] := by
          apply ByteArray.ext; apply Array.ext'
          exact List.length_eq_zero_iff.1 (by rw [Pat.size_toList]; exact hne)
        subst hae
        clear hw hwd h
        go_enter Tryf.func7, Tryf.ntmps7
        go_wp2_with fail
        refine HW0.out.mono ?_
        rintro e w' ⟨rfl, rfl⟩
        go_wp2_with fail
        go_ret
        exact ⟨rfl, Below.refl _ _⟩
      · have dne : a.toList.isEmpty = false := by
          rw [toList_data', List.isEmpty_eq_false_iff]
          intro e
          have := congrArg List.length e
          rw [Pat.size_toList] at this
          exact hne (by simpa using this)
        by_cases hn0 : n < 0
        · have d2 : decide (n < 0) = true := by simpa using hn0
          clear hw hwd h
          go_enter Tryf.func7, Tryf.ntmps7
          go_wp2_with fail
          refine HW0.out.mono ?_
          rintro e w' ⟨rfl, rfl⟩
          go_wp2_with fail
          go_ret
          exact ⟨rfl, Below.refl _ _⟩
        · have d2 : decide (n < 0) = false := by simp; omega
          by_cases hn1 : 20 < n
          · have d3 : decide ((20 : Int) < n) = true := by simpa using hn1
            clear hw hwd h
            go_enter Tryf.func7, Tryf.ntmps7
            go_wp2_with fail
            refine HW0.out.mono ?_
            rintro e w' ⟨rfl, rfl⟩
            go_wp2_with fail
            go_ret
            exact ⟨rfl, Below.refl _ _⟩
          · have d3 : decide ((20 : Int) < n) = false := by simp; omega
            obtain ⟨k, rfl⟩ : ∃ k : Nat, n = k := ⟨n.toNat, by omega⟩
            have hk : k ≤ 20 := by omega
            have hX : (63 = 63 ∨ 63 = 42 ∨ 63 = 43 ∨ 63 = 64) := by decide
            obtain ⟨pp, hpp, hP, hps⟩ := sign_par 63 (by omega) a
            have hp2 : ByteArray.mk #[63, 40] ++ a ++ ByteArray.mk #[41] = pp := hpp
            have hg1 := reg_grp pp 63 hX (nums a) hP (words_w a hwd)
            have hg0 := gX_ok 63 a hwd
            have hz0 := gX_rep a (by omega) hwd 63 hX k
            have hzd := gX_dash a hwd 63 hX k
            have hw0 : decide ((63 = 63 → k ≤ 1) ∧ (63 = 43 → 1 ≤ k) ∧ (63 = 64 → k = 1)) = decide ((k : Int) < 2) := by
              rw [Bool.eq_iff_iff]; simp; try omega
            rw [hw0] at hz0
            generalize hwant : decide ((k : Int) < 2) = z at hz0
            obtain ⟨dd, hdd⟩ : ∃ dd, repB a k ++ ByteArray.mk #[45] = dd := ⟨_, rfl⟩
            rw [hdd] at hzd
            have hds : dd.size ≤ 274877906944 := by
              rw [← hdd, size_app]
              have := repB_le a k h1 hk
              show _ + 1 ≤ _
              omega
            have hrs : (repB a k).size ≤ 274877906944 := by have := repB_le a k h1 hk; omega
            generalize gX 63 (nums a) = g at *
            have HI := Lib.hid (impl_g F pp pe 68 mdX true false false w moX mxX h (by omega) g hg1)
            have HR : Hid (∀ V : World, Calls Tryf.prog 18 #[.string ⟨(bs (Re.pr g)).toArray⟩] V fun e w' => ∃ c, e = .returned (.tuple #[.agg c, .bool true]) ∧ Nd (fun x => V.heap.size ≤ x) w' 3 Re.no128 (Re.lists g false false) 0 0 c ∧ Below V.heap.size V w') := Lib.hid fun V => read_g g hg0.2.1 hg0.1 (by omega) V
            have H := Lib.hid h
            clear hw hwd h hg1 hg0 hpp hP hps hw0 hn0 hn1 hX hne
            go_enter Tryf.func7, Tryf.ntmps7
            go_wp2_with fail
            refine HW0.out.mono ?_
            rintro e w' ⟨rfl, rfl⟩
            go_wp2_with fail
            go_loopg [5, 6] k (fun gk s5 s6 wx => ∃ j : Nat, j + gk = k ∧ s6 = .int .i64 j ∧ s5 = .string (repB a j) ∧ wx = w)
            case atStart => exact ⟨0, by omega, rfl, rfl, rfl⟩
            case round =>
              obtain ⟨j, hjg, rfl, rfl, rfl⟩ := hrel
              cases gk with
              | zero =>
                obtain rfl : j = k := by omega
                go_wp2_with fail
                refine HI.out.mono ?_
                rintro e w1 ⟨⟨gv, rfl⟩, hb⟩
                have HB := Lib.hid hb
                clear hb HI HW0
                have hr9 := repB_le a j h1 hk
                cases z
                all_goals
                  go_wp2_with fail
                  refine (HR.out w1).mono ?_
                  rintro e w2 ⟨c, rfl, hn, hb2⟩
                  have hcs := hn.size
                  have n3 : nodeAt (w2.alloc (.cells reZ tRe)) (.pointer (some ⟨w2.heap.size, 0, none⟩)) := ⟨_, reZ, rfl, heap_alloc_new w2 _, rfl⟩
                  have n4 : oneNode (.agg c) := ⟨c, rfl, hcs, hn.oneC⟩
                  have HN := Lib.hid hn
                  have HB2 := Lib.hid (HB.out.trans (hb2.mono HB.out.size))
                  clear hn hb2 HR
                  go_upto_region 12 with fail
                  clear n3 n4
                  simp only [blkOf, World.setRow_alloc_new]
                  obtain ⟨p1, p2⟩ := box_at (w := w2) hcs
                  obtain ⟨W3, hW3⟩ : ∃ W3, w2.alloc (.cells c tRe) = W3 := ⟨_, rfl⟩
                  have k3 : Kp (fun _ => False) w2 W3 := by rw [← hW3]; exact (Kp.refl _ _).alloc _
                  have b3 : W3.heap[w2.heap.size]? = some (.cells c tRe (0, 0)) := by rw [← hW3]; exact heap_alloc_new w2 _
                  rw [hW3] at p1 p2
                  rw [hW3]
                  clear hW3
                  have N3 : Hid (Nd (fun _ => True) W3 3 Re.no128 (Re.lists g false false) 0 0 c) := Lib.hid ((HN.out.mono (fun _ _ _ => trivial)).kept k3 (fun _ _ => id))
                  have H3 := Lib.hid (HB2.out.trans ((Kp.below k3 (Nat.le_refl _) (fun _ _ => id)).mono HB2.out.size))
                  have B3 := Lib.hid b3
                  clear k3 b3 HN HB2
                  have F0 := Lib.hid (found_g g W3 c (repB a j) N3.out hrs)
                  go_wp2_with fail
                  refine F0.out.mono ?_
                  rintro e w4 ⟨rfl, hb4⟩
                  have k4 := Kp.of_below (X := fun _ => False) hb4
                  have b4 := k4.heap id B3.out
                  have q1 : reOk w4 (.pointer (some ⟨w2.heap.size, 0, none⟩)) := ⟨_, 0, c, rfl, b4, by omega⟩
                  have q2 : reAt w4 (.pointer (some ⟨w2.heap.size, 0, none⟩)) = c := by
                    rw [reAt_eq b4, List.drop_zero, List.take_of_length_le (by simp; omega)]
                  have H4 := Lib.hid (H3.out.trans (hb4.mono H3.out.size))
                  have N4 := Lib.hid (N3.out.kept k4 (fun _ _ => id))
                  have B4 := Lib.hid b4
                  rw [hz0]
                  clear hb4 k4 b4 F0 B3 p1 p2 N3 H3
                  have p1 := q1
                  have p2 := q2
                  clear q1 q2
                  have F1 := Lib.hid (found_g g w4 c dd N4.out hds)
                  go_wp2_with fail
                  refine F1.out.mono ?_
                  rintro e w5 ⟨rfl, hb5⟩
                  have k5 := Kp.of_below (X := fun _ => False) hb5
                  have b5 := k5.heap id B4.out
                  have q1 : reOk w5 (.pointer (some ⟨w2.heap.size, 0, none⟩)) := ⟨_, 0, c, rfl, b5, by omega⟩
                  have q2 : reAt w5 (.pointer (some ⟨w2.heap.size, 0, none⟩)) = c := by
                    rw [reAt_eq b5, List.drop_zero, List.take_of_length_le (by simp; omega)]
                  have H5 := Lib.hid (H4.out.trans (hb5.mono H4.out.size))
                  have N5 := Lib.hid (N4.out.kept k5 (fun _ _ => id))
                  have B5 := Lib.hid b5
                  rw [hzd]
                  clear hb5 k5 b5 F1 B4 p1 p2 N4 H4
                  have HW := Lib.hid (works_any F pe w5 (H.out.below H5.out))
                  go_wp2_with fail
                  refine HW.out.mono ?_
                  rintro e wz ⟨rfl, hbz⟩
                  have HZ := Lib.hid (H5.out.trans (hbz.mono H5.out.size))
                  clear hbz HW
                  go_wp2_with fail
                  go_ret
                  exact ⟨rfl, HZ.out⟩
              | succ gk =>
                have i0 : (j : Int) < (k : Int) := by omega
                have hr9 := repB_le a j h1 (by omega)
                clear hwant
                go_wp2
                go_roundg gk
                case measure => omega
                case rel => exact ⟨j + 1, by omega, by go_num, by rw [← repB_succ], rfl⟩
  · have d1 : decide ((2147483647 : Int) < (a.size : Int)) = true := by simp; omega
    clear h hw
    go_enter Tryf.func7, Tryf.ntmps7
    go_wp2_with fail
    go_ret
    exact ⟨rfl, Below.refl _ _⟩
set_option maxHeartbeats 2000000 in
set_option maxRecDepth 100000 in
theorem walk_FnGroupMany (F : Interp) (pe : Addr) (a : ByteArray) (n : Int) (w : World) (h : LW F pe w) (ha : a.size ≤ maxLen) :
    Calls Tryf.prog 5 #[.string a, .int .i64 n] w fun e w' => e = .returned (.bool true) ∧ Below w.heap.size w w' := by
  have hw := wordOk_any a w ha
  unfold maxLen at ha
  have hz := zeroRe
  by_cases h1 : a.size ≤ 2147483647
  · have d1 : decide ((2147483647 : Int) < (a.size : Int)) = false := by simp; omega
    cases hwd : Pat.wordL a.data.toList with
    | false =>
      rw [hwd] at hw
      have HW0 := Lib.hid hw
      clear hw hwd h
      go_enter Tryf.func5, Tryf.ntmps5
      go_wp2_with fail
      refine HW0.out.mono ?_
      rintro e w' ⟨rfl, rfl⟩
      go_wp2_with fail
      go_ret
      exact ⟨rfl, Below.refl _ _⟩
    | true =>
      rw [hwd] at hw
      have HW0 := Lib.hid hw
      by_cases hne : a.size = 0
      · have hae : a = ByteArray.mk #[] := by
          apply ByteArray.ext; apply Array.ext'
          exact List.length_eq_zero_iff.1 (by rw [Pat.size_toList]; exact hne)
        subst hae
        clear hw hwd h
        go_enter Tryf.func5, Tryf.ntmps5
        go_wp2_with fail
        refine HW0.out.mono ?_
        rintro e w' ⟨rfl, rfl⟩
        go_wp2_with fail
        go_ret
        exact ⟨rfl, Below.refl _ _⟩
      · have dne : a.toList.isEmpty = false := by
          rw [toList_data', List.isEmpty_eq_false_iff]
          intro e
          have := congrArg List.length e
          rw [Pat.size_toList] at this
          exact hne (by simpa using this)
        by_cases hn0 : n < 0
        · have d2 : decide (n < 0) = true := by simpa using hn0
          clear hw hwd h
          go_enter Tryf.func5, Tryf.ntmps5
          go_wp2_with fail
          refine HW0.out.mono ?_
          rintro e w' ⟨rfl, rfl⟩
          go_wp2_with fail
          go_ret
          exact ⟨rfl, Below.refl _ _⟩
        · have d2 : decide (n < 0) = false := by simp; omega
          by_cases hn1 : 20 < n
          · have d3 : decide ((20 : Int) < n) = true := by simpa using hn1
            clear hw hwd h
            go_enter Tryf.func5, Tryf.ntmps5
            go_wp2_with fail
            refine HW0.out.mono ?_
            rintro e w' ⟨rfl, rfl⟩
            go_wp2_with fail
            go_ret
            exact ⟨rfl, Below.refl _ _⟩
          · have d3 : decide ((20 : Int) < n) = false := by simp; omega
            obtain ⟨k, rfl⟩ : ∃ k : Nat, n = k := ⟨n.toNat, by omega⟩
            have hk : k ≤ 20 := by omega
            have hX : (42 = 63 ∨ 42 = 42 ∨ 42 = 43 ∨ 42 = 64) := by decide
            obtain ⟨pp, hpp, hP, hps⟩ := sign_par 42 (by omega) a
            have hp2 : ByteArray.mk #[42, 40] ++ a ++ ByteArray.mk #[41] = pp := hpp
            have hg1 := reg_grp pp 42 hX (nums a) hP (words_w a hwd)
            have hg0 := gX_ok 42 a hwd
            have hz0 := gX_rep a (by omega) hwd 42 hX k
            have hzd := gX_dash a hwd 42 hX k
            have hw0 : decide ((42 = 63 → k ≤ 1) ∧ (42 = 43 → 1 ≤ k) ∧ (42 = 64 → k = 1)) = true := by
              rw [Bool.eq_iff_iff]; simp; try omega
            rw [hw0] at hz0
            obtain ⟨dd, hdd⟩ : ∃ dd, repB a k ++ ByteArray.mk #[45] = dd := ⟨_, rfl⟩
            rw [hdd] at hzd
            have hds : dd.size ≤ 274877906944 := by
              rw [← hdd, size_app]
              have := repB_le a k h1 hk
              show _ + 1 ≤ _
              omega
            have hrs : (repB a k).size ≤ 274877906944 := by have := repB_le a k h1 hk; omega
            generalize gX 42 (nums a) = g at *
            have HI := Lib.hid (impl_g F pp pe 68 mdX true false false w moX mxX h (by omega) g hg1)
            have HR : Hid (∀ V : World, Calls Tryf.prog 18 #[.string ⟨(bs (Re.pr g)).toArray⟩] V fun e w' => ∃ c, e = .returned (.tuple #[.agg c, .bool true]) ∧ Nd (fun x => V.heap.size ≤ x) w' 3 Re.no128 (Re.lists g false false) 0 0 c ∧ Below V.heap.size V w') := Lib.hid fun V => read_g g hg0.2.1 hg0.1 (by omega) V
            have H := Lib.hid h
            clear hw hwd h hg1 hg0 hpp hP hps hw0 hn0 hn1 hX hne
            go_enter Tryf.func5, Tryf.ntmps5
            go_wp2_with fail
            refine HW0.out.mono ?_
            rintro e w' ⟨rfl, rfl⟩
            go_wp2_with fail
            go_loopg [5, 6] k (fun gk s5 s6 wx => ∃ j : Nat, j + gk = k ∧ s6 = .int .i64 j ∧ s5 = .string (repB a j) ∧ wx = w)
            case atStart => exact ⟨0, by omega, rfl, rfl, rfl⟩
            case round =>
              obtain ⟨j, hjg, rfl, rfl, rfl⟩ := hrel
              cases gk with
              | zero =>
                obtain rfl : j = k := by omega
                go_wp2_with fail
                refine HI.out.mono ?_
                rintro e w1 ⟨⟨gv, rfl⟩, hb⟩
                have HB := Lib.hid hb
                clear hb HI HW0
                have hr9 := repB_le a j h1 hk
                go_wp2_with fail
                refine (HR.out w1).mono ?_
                rintro e w2 ⟨c, rfl, hn, hb2⟩
                have hcs := hn.size
                have n3 : nodeAt (w2.alloc (.cells reZ tRe)) (.pointer (some ⟨w2.heap.size, 0, none⟩)) := ⟨_, reZ, rfl, heap_alloc_new w2 _, rfl⟩
                have n4 : oneNode (.agg c) := ⟨c, rfl, hcs, hn.oneC⟩
                have HN := Lib.hid hn
                have HB2 := Lib.hid (HB.out.trans (hb2.mono HB.out.size))
                clear hn hb2 HR
                go_upto_region 12 with fail
                clear n3 n4
                simp only [blkOf, World.setRow_alloc_new]
                obtain ⟨p1, p2⟩ := box_at (w := w2) hcs
                obtain ⟨W3, hW3⟩ : ∃ W3, w2.alloc (.cells c tRe) = W3 := ⟨_, rfl⟩
                have k3 : Kp (fun _ => False) w2 W3 := by rw [← hW3]; exact (Kp.refl _ _).alloc _
                have b3 : W3.heap[w2.heap.size]? = some (.cells c tRe (0, 0)) := by rw [← hW3]; exact heap_alloc_new w2 _
                rw [hW3] at p1 p2
                rw [hW3]
                clear hW3
                have N3 : Hid (Nd (fun _ => True) W3 3 Re.no128 (Re.lists g false false) 0 0 c) := Lib.hid ((HN.out.mono (fun _ _ _ => trivial)).kept k3 (fun _ _ => id))
                have H3 := Lib.hid (HB2.out.trans ((Kp.below k3 (Nat.le_refl _) (fun _ _ => id)).mono HB2.out.size))
                have B3 := Lib.hid b3
                clear k3 b3 HN HB2
                have F0 := Lib.hid (found_g g W3 c (repB a j) N3.out hrs)
                go_wp2_with fail
                refine F0.out.mono ?_
                rintro e w4 ⟨rfl, hb4⟩
                have k4 := Kp.of_below (X := fun _ => False) hb4
                have b4 := k4.heap id B3.out
                have q1 : reOk w4 (.pointer (some ⟨w2.heap.size, 0, none⟩)) := ⟨_, 0, c, rfl, b4, by omega⟩
                have q2 : reAt w4 (.pointer (some ⟨w2.heap.size, 0, none⟩)) = c := by
                  rw [reAt_eq b4, List.drop_zero, List.take_of_length_le (by simp; omega)]
                have H4 := Lib.hid (H3.out.trans (hb4.mono H3.out.size))
                have N4 := Lib.hid (N3.out.kept k4 (fun _ _ => id))
                have B4 := Lib.hid b4
                rw [hz0]
                clear hb4 k4 b4 F0 B3 p1 p2 N3 H3
                have p1 := q1
                have p2 := q2
                clear q1 q2
                have F1 := Lib.hid (found_g g w4 c dd N4.out hds)
                go_wp2_with fail
                refine F1.out.mono ?_
                rintro e w5 ⟨rfl, hb5⟩
                have k5 := Kp.of_below (X := fun _ => False) hb5
                have b5 := k5.heap id B4.out
                have q1 : reOk w5 (.pointer (some ⟨w2.heap.size, 0, none⟩)) := ⟨_, 0, c, rfl, b5, by omega⟩
                have q2 : reAt w5 (.pointer (some ⟨w2.heap.size, 0, none⟩)) = c := by
                  rw [reAt_eq b5, List.drop_zero, List.take_of_length_le (by simp; omega)]
                have H5 := Lib.hid (H4.out.trans (hb5.mono H4.out.size))
                have N5 := Lib.hid (N4.out.kept k5 (fun _ _ => id))
                have B5 := Lib.hid b5
                rw [hzd]
                clear hb5 k5 b5 F1 B4 p1 p2 N4 H4
                have HW := Lib.hid (works_any F pe w5 (H.out.below H5.out))
                go_wp2_with fail
                refine HW.out.mono ?_
                rintro e wz ⟨rfl, hbz⟩
                have HZ := Lib.hid (H5.out.trans (hbz.mono H5.out.size))
                clear hbz HW
                go_wp2_with fail
                go_ret
                exact ⟨rfl, HZ.out⟩
              | succ gk =>
                have i0 : (j : Int) < (k : Int) := by omega
                have hr9 := repB_le a j h1 (by omega)
                go_wp2
                go_roundg gk
                case measure => omega
                case rel => exact ⟨j + 1, by omega, by go_num, by rw [← repB_succ], rfl⟩
  · have d1 : decide ((2147483647 : Int) < (a.size : Int)) = true := by simp; omega
    clear h hw
    go_enter Tryf.func5, Tryf.ntmps5
    go_wp2_with fail
    go_ret
    exact ⟨rfl, Below.refl _ _⟩
set_option maxHeartbeats 2000000 in
set_option maxRecDepth 100000 in
theorem walk_FnGroupMore (F : Interp) (pe : Addr) (a : ByteArray) (n : Int) (w : World) (h : LW F pe w) (ha : a.size ≤ maxLen) :
    Calls Tryf.prog 6 #[.string a, .int .i64 n] w fun e w' => e = .returned (.bool true) ∧ Below w.heap.size w w' := by
  have hw := wordOk_any a w ha
  unfold maxLen at ha
  have hz := zeroRe
  by_cases h1 : a.size ≤ 2147483647
  · have d1 : decide ((2147483647 : Int) < (a.size : Int)) = false := by simp; omega
    cases hwd : Pat.wordL a.data.toList with
    | false =>
      rw [hwd] at hw
      have HW0 := Lib.hid hw
      clear hw hwd h
      go_enter Tryf.func6, Tryf.ntmps6
      go_wp2_with fail
      refine HW0.out.mono ?_
      rintro e w' ⟨rfl, rfl⟩
      go_wp2_with fail
      go_ret
      exact ⟨rfl, Below.refl _ _⟩
    | true =>
      rw [hwd] at hw
      have HW0 := Lib.hid hw
      by_cases hne : a.size = 0
      · have hae : a = ByteArray.mk #[] := by
          apply ByteArray.ext; apply Array.ext'
          exact List.length_eq_zero_iff.1 (by rw [Pat.size_toList]; exact hne)
        subst hae
        clear hw hwd h
        go_enter Tryf.func6, Tryf.ntmps6
        go_wp2_with fail
        refine HW0.out.mono ?_
        rintro e w' ⟨rfl, rfl⟩
        go_wp2_with fail
        go_ret
        exact ⟨rfl, Below.refl _ _⟩
      · have dne : a.toList.isEmpty = false := by
          rw [toList_data', List.isEmpty_eq_false_iff]
          intro e
          have := congrArg List.length e
          rw [Pat.size_toList] at this
          exact hne (by simpa using this)
        by_cases hn0 : n < 0
        · have d2 : decide (n < 0) = true := by simpa using hn0
          clear hw hwd h
          go_enter Tryf.func6, Tryf.ntmps6
          go_wp2_with fail
          refine HW0.out.mono ?_
          rintro e w' ⟨rfl, rfl⟩
          go_wp2_with fail
          go_ret
          exact ⟨rfl, Below.refl _ _⟩
        · have d2 : decide (n < 0) = false := by simp; omega
          by_cases hn1 : 20 < n
          · have d3 : decide ((20 : Int) < n) = true := by simpa using hn1
            clear hw hwd h
            go_enter Tryf.func6, Tryf.ntmps6
            go_wp2_with fail
            refine HW0.out.mono ?_
            rintro e w' ⟨rfl, rfl⟩
            go_wp2_with fail
            go_ret
            exact ⟨rfl, Below.refl _ _⟩
          · have d3 : decide ((20 : Int) < n) = false := by simp; omega
            obtain ⟨k, rfl⟩ : ∃ k : Nat, n = k := ⟨n.toNat, by omega⟩
            have hk : k ≤ 20 := by omega
            have hX : (43 = 63 ∨ 43 = 42 ∨ 43 = 43 ∨ 43 = 64) := by decide
            obtain ⟨pp, hpp, hP, hps⟩ := sign_par 43 (by omega) a
            have hp2 : ByteArray.mk #[43, 40] ++ a ++ ByteArray.mk #[41] = pp := hpp
            have hg1 := reg_grp pp 43 hX (nums a) hP (words_w a hwd)
            have hg0 := gX_ok 43 a hwd
            have hz0 := gX_rep a (by omega) hwd 43 hX k
            have hzd := gX_dash a hwd 43 hX k
            have hw0 : decide ((43 = 63 → k ≤ 1) ∧ (43 = 43 → 1 ≤ k) ∧ (43 = 64 → k = 1)) = decide (0 < k) := by
              rw [Bool.eq_iff_iff]; simp; try omega
            rw [hw0] at hz0
            generalize hwant : decide (0 < k) = z at hz0
            obtain ⟨dd, hdd⟩ : ∃ dd, repB a k ++ ByteArray.mk #[45] = dd := ⟨_, rfl⟩
            rw [hdd] at hzd
            have hds : dd.size ≤ 274877906944 := by
              rw [← hdd, size_app]
              have := repB_le a k h1 hk
              show _ + 1 ≤ _
              omega
            have hrs : (repB a k).size ≤ 274877906944 := by have := repB_le a k h1 hk; omega
            generalize gX 43 (nums a) = g at *
            have HI := Lib.hid (impl_g F pp pe 68 mdX true false false w moX mxX h (by omega) g hg1)
            have HR : Hid (∀ V : World, Calls Tryf.prog 18 #[.string ⟨(bs (Re.pr g)).toArray⟩] V fun e w' => ∃ c, e = .returned (.tuple #[.agg c, .bool true]) ∧ Nd (fun x => V.heap.size ≤ x) w' 3 Re.no128 (Re.lists g false false) 0 0 c ∧ Below V.heap.size V w') := Lib.hid fun V => read_g g hg0.2.1 hg0.1 (by omega) V
            have H := Lib.hid h
            clear hw hwd h hg1 hg0 hpp hP hps hw0 hn0 hn1 hX hne
            go_enter Tryf.func6, Tryf.ntmps6
            go_wp2_with fail
            refine HW0.out.mono ?_
            rintro e w' ⟨rfl, rfl⟩
            go_wp2_with fail
            go_loopg [5, 6] k (fun gk s5 s6 wx => ∃ j : Nat, j + gk = k ∧ s6 = .int .i64 j ∧ s5 = .string (repB a j) ∧ wx = w)
            case atStart => exact ⟨0, by omega, rfl, rfl, rfl⟩
            case round =>
              obtain ⟨j, hjg, rfl, rfl, rfl⟩ := hrel
              cases gk with
              | zero =>
                obtain rfl : j = k := by omega
                go_wp2_with fail
                refine HI.out.mono ?_
                rintro e w1 ⟨⟨gv, rfl⟩, hb⟩
                have HB := Lib.hid hb
                clear hb HI HW0
                have hr9 := repB_le a j h1 hk
                cases z
                all_goals
                  go_wp2_with fail
                  refine (HR.out w1).mono ?_
                  rintro e w2 ⟨c, rfl, hn, hb2⟩
                  have hcs := hn.size
                  have n3 : nodeAt (w2.alloc (.cells reZ tRe)) (.pointer (some ⟨w2.heap.size, 0, none⟩)) := ⟨_, reZ, rfl, heap_alloc_new w2 _, rfl⟩
                  have n4 : oneNode (.agg c) := ⟨c, rfl, hcs, hn.oneC⟩
                  have HN := Lib.hid hn
                  have HB2 := Lib.hid (HB.out.trans (hb2.mono HB.out.size))
                  clear hn hb2 HR
                  go_upto_region 12 with fail
                  clear n3 n4
                  simp only [blkOf, World.setRow_alloc_new]
                  obtain ⟨p1, p2⟩ := box_at (w := w2) hcs
                  obtain ⟨W3, hW3⟩ : ∃ W3, w2.alloc (.cells c tRe) = W3 := ⟨_, rfl⟩
                  have k3 : Kp (fun _ => False) w2 W3 := by rw [← hW3]; exact (Kp.refl _ _).alloc _
                  have b3 : W3.heap[w2.heap.size]? = some (.cells c tRe (0, 0)) := by rw [← hW3]; exact heap_alloc_new w2 _
                  rw [hW3] at p1 p2
                  rw [hW3]
                  clear hW3
                  have N3 : Hid (Nd (fun _ => True) W3 3 Re.no128 (Re.lists g false false) 0 0 c) := Lib.hid ((HN.out.mono (fun _ _ _ => trivial)).kept k3 (fun _ _ => id))
                  have H3 := Lib.hid (HB2.out.trans ((Kp.below k3 (Nat.le_refl _) (fun _ _ => id)).mono HB2.out.size))
                  have B3 := Lib.hid b3
                  clear k3 b3 HN HB2
                  have F0 := Lib.hid (found_g g W3 c (repB a j) N3.out hrs)
                  go_wp2_with fail
                  refine F0.out.mono ?_
                  rintro e w4 ⟨rfl, hb4⟩
                  have k4 := Kp.of_below (X := fun _ => False) hb4
                  have b4 := k4.heap id B3.out
                  have q1 : reOk w4 (.pointer (some ⟨w2.heap.size, 0, none⟩)) := ⟨_, 0, c, rfl, b4, by omega⟩
                  have q2 : reAt w4 (.pointer (some ⟨w2.heap.size, 0, none⟩)) = c := by
                    rw [reAt_eq b4, List.drop_zero, List.take_of_length_le (by simp; omega)]
                  have H4 := Lib.hid (H3.out.trans (hb4.mono H3.out.size))
                  have N4 := Lib.hid (N3.out.kept k4 (fun _ _ => id))
                  have B4 := Lib.hid b4
                  rw [hz0]
                  clear hb4 k4 b4 F0 B3 p1 p2 N3 H3
                  have p1 := q1
                  have p2 := q2
                  clear q1 q2
                  have F1 := Lib.hid (found_g g w4 c dd N4.out hds)
                  go_wp2_with fail
                  refine F1.out.mono ?_
                  rintro e w5 ⟨rfl, hb5⟩
                  have k5 := Kp.of_below (X := fun _ => False) hb5
                  have b5 := k5.heap id B4.out
                  have q1 : reOk w5 (.pointer (some ⟨w2.heap.size, 0, none⟩)) := ⟨_, 0, c, rfl, b5, by omega⟩
                  have q2 : reAt w5 (.pointer (some ⟨w2.heap.size, 0, none⟩)) = c := by
                    rw [reAt_eq b5, List.drop_zero, List.take_of_length_le (by simp; omega)]
                  have H5 := Lib.hid (H4.out.trans (hb5.mono H4.out.size))
                  have N5 := Lib.hid (N4.out.kept k5 (fun _ _ => id))
                  have B5 := Lib.hid b5
                  rw [hzd]
                  clear hb5 k5 b5 F1 B4 p1 p2 N4 H4
                  have HW := Lib.hid (works_any F pe w5 (H.out.below H5.out))
                  go_wp2_with fail
                  refine HW.out.mono ?_
                  rintro e wz ⟨rfl, hbz⟩
                  have HZ := Lib.hid (H5.out.trans (hbz.mono H5.out.size))
                  clear hbz HW
                  go_wp2_with fail
                  go_ret
                  exact ⟨rfl, HZ.out⟩
              | succ gk =>
                have i0 : (j : Int) < (k : Int) := by omega
                have hr9 := repB_le a j h1 (by omega)
                clear hwant
                go_wp2
                go_roundg gk
                case measure => omega
                case rel => exact ⟨j + 1, by omega, by go_num, by rw [← repB_succ], rfl⟩
  · have d1 : decide ((2147483647 : Int) < (a.size : Int)) = true := by simp; omega
    clear h hw
    go_enter Tryf.func6, Tryf.ntmps6
    go_wp2_with fail
    go_ret
    exact ⟨rfl, Below.refl _ _⟩
set_option maxHeartbeats 2000000 in
set_option maxRecDepth 100000 in
theorem walk_FnGroupJust (F : Interp) (pe : Addr) (a : ByteArray) (n : Int) (w : World) (h : LW F pe w) (ha : a.size ≤ maxLen) :
    Calls Tryf.prog 4 #[.string a, .int .i64 n] w fun e w' => e = .returned (.bool true) ∧ Below w.heap.size w w' := by
  have hw := wordOk_any a w ha
  unfold maxLen at ha
  have hz := zeroRe
  by_cases h1 : a.size ≤ 2147483647
  · have d1 : decide ((2147483647 : Int) < (a.size : Int)) = false := by simp; omega
    cases hwd : Pat.wordL a.data.toList with
    | false =>
      rw [hwd] at hw
      have HW0 := Lib.hid hw
      clear hw hwd h
      go_enter Tryf.func4, Tryf.ntmps4
      go_wp2_with fail
      refine HW0.out.mono ?_
      rintro e w' ⟨rfl, rfl⟩
      go_wp2_with fail
      go_ret
      exact ⟨rfl, Below.refl _ _⟩
    | true =>
      rw [hwd] at hw
      have HW0 := Lib.hid hw
      by_cases hne : a.size = 0
      · have hae : a = ByteArray.mk #[] := by
          apply ByteArray.ext; apply Array.ext'
          exact List.length_eq_zero_iff.1 (by rw [Pat.size_toList]; exact hne)
        subst hae
        clear hw hwd h
        go_enter Tryf.func4, Tryf.ntmps4
        go_wp2_with fail
        refine HW0.out.mono ?_
        rintro e w' ⟨rfl, rfl⟩
        go_wp2_with fail
        go_ret
        exact ⟨rfl, Below.refl _ _⟩
      · have dne : a.toList.isEmpty = false := by
          rw [toList_data', List.isEmpty_eq_false_iff]
          intro e
          have := congrArg List.length e
          rw [Pat.size_toList] at this
          exact hne (by simpa using this)
        by_cases hn0 : n < 0
        · have d2 : decide (n < 0) = true := by simpa using hn0
          clear hw hwd h
          go_enter Tryf.func4, Tryf.ntmps4
          go_wp2_with fail
          refine HW0.out.mono ?_
          rintro e w' ⟨rfl, rfl⟩
          go_wp2_with fail
          go_ret
          exact ⟨rfl, Below.refl _ _⟩
        · have d2 : decide (n < 0) = false := by simp; omega
          by_cases hn1 : 20 < n
          · have d3 : decide ((20 : Int) < n) = true := by simpa using hn1
            clear hw hwd h
            go_enter Tryf.func4, Tryf.ntmps4
            go_wp2_with fail
            refine HW0.out.mono ?_
            rintro e w' ⟨rfl, rfl⟩
            go_wp2_with fail
            go_ret
            exact ⟨rfl, Below.refl _ _⟩
          · have d3 : decide ((20 : Int) < n) = false := by simp; omega
            obtain ⟨k, rfl⟩ : ∃ k : Nat, n = k := ⟨n.toNat, by omega⟩
            have hk : k ≤ 20 := by omega
            have hX : (64 = 63 ∨ 64 = 42 ∨ 64 = 43 ∨ 64 = 64) := by decide
            obtain ⟨pp, hpp, hP, hps⟩ := sign_par 64 (by omega) a
            have hp2 : ByteArray.mk #[64, 40] ++ a ++ ByteArray.mk #[41] = pp := hpp
            have hg1 := reg_grp pp 64 hX (nums a) hP (words_w a hwd)
            have hg0 := gX_ok 64 a hwd
            have hz0 := gX_rep a (by omega) hwd 64 hX k
            have hzd := gX_dash a hwd 64 hX k
            have hw0 : decide ((64 = 63 → k ≤ 1) ∧ (64 = 43 → 1 ≤ k) ∧ (64 = 64 → k = 1)) = ((k : Int) == 1) := by
              rw [Bool.eq_iff_iff]; simp; try omega
            rw [hw0] at hz0
            generalize hwant : ((k : Int) == 1) = z at hz0
            obtain ⟨dd, hdd⟩ : ∃ dd, repB a k ++ ByteArray.mk #[45] = dd := ⟨_, rfl⟩
            rw [hdd] at hzd
            have hds : dd.size ≤ 274877906944 := by
              rw [← hdd, size_app]
              have := repB_le a k h1 hk
              show _ + 1 ≤ _
              omega
            have hrs : (repB a k).size ≤ 274877906944 := by have := repB_le a k h1 hk; omega
            generalize gX 64 (nums a) = g at *
            have HI := Lib.hid (impl_g F pp pe 68 mdX true false false w moX mxX h (by omega) g hg1)
            have HR : Hid (∀ V : World, Calls Tryf.prog 18 #[.string ⟨(bs (Re.pr g)).toArray⟩] V fun e w' => ∃ c, e = .returned (.tuple #[.agg c, .bool true]) ∧ Nd (fun x => V.heap.size ≤ x) w' 3 Re.no128 (Re.lists g false false) 0 0 c ∧ Below V.heap.size V w') := Lib.hid fun V => read_g g hg0.2.1 hg0.1 (by omega) V
            have H := Lib.hid h
            clear hw hwd h hg1 hg0 hpp hP hps hw0 hn0 hn1 hX hne
            go_enter Tryf.func4, Tryf.ntmps4
            go_wp2_with fail
            refine HW0.out.mono ?_
            rintro e w' ⟨rfl, rfl⟩
            go_wp2_with fail
            go_loopg [5, 6] k (fun gk s5 s6 wx => ∃ j : Nat, j + gk = k ∧ s6 = .int .i64 j ∧ s5 = .string (repB a j) ∧ wx = w)
            case atStart => exact ⟨0, by omega, rfl, rfl, rfl⟩
            case round =>
              obtain ⟨j, hjg, rfl, rfl, rfl⟩ := hrel
              cases gk with
              | zero =>
                obtain rfl : j = k := by omega
                go_wp2_with fail
                refine HI.out.mono ?_
                rintro e w1 ⟨⟨gv, rfl⟩, hb⟩
                have HB := Lib.hid hb
                clear hb HI HW0
                have hr9 := repB_le a j h1 hk
                cases z
                all_goals
                  go_wp2_with fail
                  refine (HR.out w1).mono ?_
                  rintro e w2 ⟨c, rfl, hn, hb2⟩
                  have hcs := hn.size
                  have n3 : nodeAt (w2.alloc (.cells reZ tRe)) (.pointer (some ⟨w2.heap.size, 0, none⟩)) := ⟨_, reZ, rfl, heap_alloc_new w2 _, rfl⟩
                  have n4 : oneNode (.agg c) := ⟨c, rfl, hcs, hn.oneC⟩
                  have HN := Lib.hid hn
                  have HB2 := Lib.hid (HB.out.trans (hb2.mono HB.out.size))
                  clear hn hb2 HR
                  go_upto_region 12 with fail
                  clear n3 n4
                  simp only [blkOf, World.setRow_alloc_new]
                  obtain ⟨p1, p2⟩ := box_at (w := w2) hcs
                  obtain ⟨W3, hW3⟩ : ∃ W3, w2.alloc (.cells c tRe) = W3 := ⟨_, rfl⟩
                  have k3 : Kp (fun _ => False) w2 W3 := by rw [← hW3]; exact (Kp.refl _ _).alloc _
                  have b3 : W3.heap[w2.heap.size]? = some (.cells c tRe (0, 0)) := by rw [← hW3]; exact heap_alloc_new w2 _
                  rw [hW3] at p1 p2
                  rw [hW3]
                  clear hW3
                  have N3 : Hid (Nd (fun _ => True) W3 3 Re.no128 (Re.lists g false false) 0 0 c) := Lib.hid ((HN.out.mono (fun _ _ _ => trivial)).kept k3 (fun _ _ => id))
                  have H3 := Lib.hid (HB2.out.trans ((Kp.below k3 (Nat.le_refl _) (fun _ _ => id)).mono HB2.out.size))
                  have B3 := Lib.hid b3
                  clear k3 b3 HN HB2
                  have F0 := Lib.hid (found_g g W3 c (repB a j) N3.out hrs)
                  go_wp2_with fail
                  refine F0.out.mono ?_
                  rintro e w4 ⟨rfl, hb4⟩
                  have k4 := Kp.of_below (X := fun _ => False) hb4
                  have b4 := k4.heap id B3.out
                  have q1 : reOk w4 (.pointer (some ⟨w2.heap.size, 0, none⟩)) := ⟨_, 0, c, rfl, b4, by omega⟩
                  have q2 : reAt w4 (.pointer (some ⟨w2.heap.size, 0, none⟩)) = c := by
                    rw [reAt_eq b4, List.drop_zero, List.take_of_length_le (by simp; omega)]
                  have H4 := Lib.hid (H3.out.trans (hb4.mono H3.out.size))
                  have N4 := Lib.hid (N3.out.kept k4 (fun _ _ => id))
                  have B4 := Lib.hid b4
                  rw [hz0]
                  clear hb4 k4 b4 F0 B3 p1 p2 N3 H3
                  have p1 := q1
                  have p2 := q2
                  clear q1 q2
                  have F1 := Lib.hid (found_g g w4 c dd N4.out hds)
                  go_wp2_with fail
                  refine F1.out.mono ?_
                  rintro e w5 ⟨rfl, hb5⟩
                  have k5 := Kp.of_below (X := fun _ => False) hb5
                  have b5 := k5.heap id B4.out
                  have q1 : reOk w5 (.pointer (some ⟨w2.heap.size, 0, none⟩)) := ⟨_, 0, c, rfl, b5, by omega⟩
                  have q2 : reAt w5 (.pointer (some ⟨w2.heap.size, 0, none⟩)) = c := by
                    rw [reAt_eq b5, List.drop_zero, List.take_of_length_le (by simp; omega)]
                  have H5 := Lib.hid (H4.out.trans (hb5.mono H4.out.size))
                  have N5 := Lib.hid (N4.out.kept k5 (fun _ _ => id))
                  have B5 := Lib.hid b5
                  rw [hzd]
                  clear hb5 k5 b5 F1 B4 p1 p2 N4 H4
                  have HW := Lib.hid (works_any F pe w5 (H.out.below H5.out))
                  go_wp2_with fail
                  refine HW.out.mono ?_
                  rintro e wz ⟨rfl, hbz⟩
                  have HZ := Lib.hid (H5.out.trans (hbz.mono H5.out.size))
                  clear hbz HW
                  go_wp2_with fail
                  go_ret
                  exact ⟨rfl, HZ.out⟩
              | succ gk =>
                have i0 : (j : Int) < (k : Int) := by omega
                have hr9 := repB_le a j h1 (by omega)
                clear hwant
                go_wp2
                go_roundg gk
                case measure => omega
                case rel => exact ⟨j + 1, by omega, by go_num, by rw [← repB_succ], rfl⟩
  · have d1 : decide ((2147483647 : Int) < (a.size : Int)) = true := by simp; omega
    clear h hw
    go_enter Tryf.func4, Tryf.ntmps4
    go_wp2_with fail
    go_ret
    exact ⟨rfl, Below.refl _ _⟩
end Go.Proofs.YtjoefmnkbcoblaaFmt
