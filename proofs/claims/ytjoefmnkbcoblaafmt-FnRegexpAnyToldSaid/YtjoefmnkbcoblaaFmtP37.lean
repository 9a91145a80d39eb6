/- Joined by pack.py: PlS, LawU. -/
import Derived.Test.YtjoefmnkbcoblaaFmtP36
/- PLAIN: the star, question marks. No program stands here. -/
namespace Go.Proofs.YtjoefmnkbcoblaaFmt
open Re (G Ato Su gl sq fnd)
set_option linter.unusedVariables false

def mdE : Md := ⟨false, false, false, false⟩
theorem moE : Mo 4 mdE := ⟨rfl, rfl, rfl, rfl, rfl⟩
theorem mxE : Mx 4 true false false := ⟨rfl, rfl, rfl, rfl⟩
theorem reg_ent (s : ByteArray) (h : ∀ c ∈ nums s, pcOk mdE c = true) : regexpM mdE true false false s = .ok (bs (Re.pr (gAll true false false (nums s)))) := reg_plain mdE rfl true false false s h (.inl rfl)
theorem star_found (s : List UInt8) (hs : Re.asc s) : fnd s (gAll true false false [42]) = true := by
  rw [fnd_ent]
  refine ⟨s.length, ?_⟩
  show sq s (.ato .dot .star (.ato .fin .one .done)) false true 0 s.length
  rw [Re.sq_dotstar s hs _ _ _ _ (Nat.zero_le _)]
  exact ⟨s.length, Nat.zero_le _, Nat.le_refl _, (Re.sq_fin s _ _ _ _ _).2 ⟨rfl, rfl⟩⟩
theorem sq_any (s : List UInt8) (hs : Re.asc s) (f : Bool) : ∀ (n : Nat) (r : G) (i j : Nat), sq s (gp (List.replicate n 63) r) f true i j ↔ (n = 0 ∨ i + n ≤ s.length) ∧ sq s r f true (i + n) j
  | 0, r, i, j => by simp [gp]
  | n + 1, r, i, j => by
    have e : gp (List.replicate (n + 1) 63) r = .ato .dot .one (gp (List.replicate n 63) r) := by simp [List.replicate_succ, gp]
    rw [e, Re.sq_dot s hs, sq_any s hs f n r (i + 1) j]
    have e2 : i + 1 + n = i + (n + 1) := by omega
    rw [e2, ← and_assoc]
    refine and_congr_left fun _ => ?_
    omega
theorem any_found (s : List UInt8) (hs : Re.asc s) (n : Nat) : fnd s (gAll true false false (List.replicate n 63)) = decide (s.length = n) := by
  rw [Bool.eq_iff_iff, fnd_ent, decide_eq_true_iff]
  simp only [sq_any s hs, Re.sq_fin, Re.sq_done, Nat.zero_add]
  constructor
  · rintro ⟨j, _, h, _⟩; exact h.symm
  · rintro rfl; exact ⟨s.length, by omega, rfl, rfl⟩
theorem textQ_asc (l : List UInt8) (h : Pat.textQ l = true) : Re.asc l := fun c hc => by
  have := List.all_eq_true.1 h c hc
  simp at this
  omega
/-- question marks -/
def qm (n : Nat) : ByteArray := ⟨(List.replicate n (63 : UInt8)).toArray⟩
theorem qm_succ (n : Nat) : qm n ++ ⟨#[63]⟩ = qm (n + 1) := by
  apply ByteArray.ext
  apply Array.ext'
  rw [ByteArray.data_append]
  simp [qm, List.replicate_succ']
theorem qm_size (n : Nat) : (qm n).size = n := by
  show (List.replicate n (63 : UInt8)).toArray.size = n
  simp
theorem nums_qm (n : Nat) : nums (qm n) = List.replicate n 63 := by simp [nums, qm]
end Go.Proofs.YtjoefmnkbcoblaaFmt

/- Walks: laws.FnRegexpStar, laws.FnRegexpAny. Printed by gen_lawt.py. -/
namespace Go.Proofs.YtjoefmnkbcoblaaFmt
open Go.RowKit Go.Extern.Stop Go.Stop Go.Extern
open Re (Fo G nodeE mean falses trues foundE fnd)
set_option linter.unusedVariables false

attribute [local go_sem ↓] ld_eq st_eq
attribute [local go_sem] run_ldAt run_stRe
set_option maxHeartbeats 1000000 in
set_option maxRecDepth 100000 in
theorem walk_FnRegexpStar (F : Interp) (pe : Addr) (s : ByteArray) (w : World) (h : LW F pe w) (hs : s.size ≤ maxLen) :
    Calls Tryf.prog 13 #[.string s] w fun e w' => e = .returned (.bool true) ∧ Below w.heap.size w w' := by
  have hw := textQ_any s w hs
  unfold maxLen at hs
  have hz := zeroRe
  by_cases h1 : s.size ≤ 2147483647
  · have d1 : decide ((2147483647 : Int) < (s.size : Int)) = false := by simp; omega
    cases hwd : Pat.textQ s.data.toList with
    | false =>
      rw [hwd] at hw
      have HW0 := Lib.hid hw
      clear hw hwd h
      go_enter Tryf.func13, Tryf.ntmps13
      go_wp2_with fail
      refine HW0.out.mono ?_
      rintro e w' ⟨rfl, rfl⟩
      go_wp2_with fail
      go_ret
      exact ⟨rfl, Below.refl _ _⟩
    | true =>
      rw [hwd] at hw
      have HW0 := Lib.hid hw
      have hg4 := star_found s.data.toList (textQ_asc _ hwd)
      have hg1 : regexpM mdE true false false ⟨#[42]⟩ = .ok (bs (Re.pr (gAll true false false [42]))) := reg_ent ⟨#[42]⟩ (by decide)
      have hgo := gAll_ok true false false [42] (by decide)
      have hgl : (Re.pr (gAll true false false [42])).length ≤ 274877906944 := Nat.le_trans (all_len _ _ _ _) (by decide)
      generalize gAll true false false [42] = g at *
      have HI := Lib.hid (impl_g F ⟨#[42]⟩ pe 4 mdE true false false w moE mxE h (by decide) g hg1)
      have HR : Hid (∀ V : World, Calls Tryf.prog 18 #[.string ⟨(bs (Re.pr g)).toArray⟩] V fun e w' => ∃ c, e = .returned (.tuple #[.agg c, .bool true]) ∧ Nd (fun x => V.heap.size ≤ x) w' 3 Re.no128 (Re.lists g false false) 0 0 c ∧ Below V.heap.size V w') := Lib.hid fun V => read_g g hgo.2 hgo.1 hgl V
      have H := Lib.hid h
      clear hw hwd h hg1 hgo hgl
      go_enter Tryf.func13, Tryf.ntmps13
      go_wp2_with fail
      refine HW0.out.mono ?_
      rintro e w' ⟨rfl, rfl⟩
      go_wp2_with fail
      refine HI.out.mono ?_
      rintro e w1 ⟨⟨gv, rfl⟩, hb⟩
      have HB := Lib.hid hb
      clear hb HI HW0
      go_wp2_with fail
      refine (HR.out w1).mono ?_
      rintro e w2 ⟨c, rfl, hn, hb2⟩
      have hcs := hn.size
      have n3 : nodeAt (w2.alloc (.cells reZ tRe)) (.pointer (some ⟨w2.heap.size, 0, none⟩)) := ⟨_, reZ, rfl, heap_alloc_new w2 _, rfl⟩
      have n4 : oneNode (.agg c) := ⟨c, rfl, hcs, hn.oneC⟩
      have HN := Lib.hid hn
      have HB2 := Lib.hid (HB.out.trans (hb2.mono HB.out.size))
      clear hn hb2 HR
      go_upto_region 7 with fail
      clear n3 n4
      simp only [blkOf, World.setRow_alloc_new]
      obtain ⟨p1, p2⟩ := box_at (w := w2) hcs
      obtain ⟨W3, hW3⟩ : ∃ W3, w2.alloc (.cells c tRe) = W3 := ⟨_, rfl⟩
      have k3 : Kp (fun _ => False) w2 W3 := by rw [← hW3]; exact (Kp.refl _ _).alloc _
      have b3 : W3.heap[w2.heap.size]? = some (.cells c tRe (0, 0)) := by rw [← hW3]; exact heap_alloc_new w2 _
      rw [hW3] at p1 p2
      rw [hW3]
      clear hW3
      have N3 : Hid (Nd (fun _ => True) W3 3 Re.no128 (Re.lists g false false) 0 0 c) := Lib.hid ((HN.out.mono (fun _ _ _ => trivial)).kept k3 (fun _ _ => id))
      have H3 := Lib.hid (HB2.out.trans ((Kp.below k3 (Nat.le_refl _) (fun _ _ => id)).mono HB2.out.size))
      have B3 := Lib.hid b3
      clear k3 b3 HN HB2
      have F0 := Lib.hid (found_g g W3 c s N3.out (by omega))
      go_wp2_with fail
      refine F0.out.mono ?_
      rintro e w4 ⟨rfl, hb4⟩
      have k4 := Kp.of_below (X := fun _ => False) hb4
      have b4 := k4.heap id B3.out
      have q1 : reOk w4 (.pointer (some ⟨w2.heap.size, 0, none⟩)) := ⟨_, 0, c, rfl, b4, by omega⟩
      have q2 : reAt w4 (.pointer (some ⟨w2.heap.size, 0, none⟩)) = c := by
        rw [reAt_eq b4, List.drop_zero, List.take_of_length_le (by simp; omega)]
      have H4 := Lib.hid (H3.out.trans (hb4.mono H3.out.size))
      have N4 := Lib.hid (N3.out.kept k4 (fun _ _ => id))
      have B4 := Lib.hid b4
      rw [hg4]
      clear hb4 k4 b4 F0 B3 p1 p2 N3 H3
      have HW := Lib.hid (works_any F pe w4 (H.out.below H4.out))
      go_wp2_with fail
      refine HW.out.mono ?_
      rintro e wz ⟨rfl, hbz⟩
      have HZ := Lib.hid (H4.out.trans (hbz.mono H4.out.size))
      clear hbz HW
      go_wp2_with fail
      go_ret
      exact ⟨rfl, HZ.out⟩
  · have d1 : decide ((2147483647 : Int) < (s.size : Int)) = true := by simp; omega
    clear h
    go_enter Tryf.func13, Tryf.ntmps13
    go_wp2
    go_ret
    exact ⟨rfl, Below.refl _ _⟩
set_option maxHeartbeats 2000000 in
set_option maxRecDepth 100000 in
theorem walk_FnRegexpAny (F : Interp) (pe : Addr) (n : Int) (s : ByteArray) (w : World) (h : LW F pe w) (hs : s.size ≤ maxLen) :
    Calls Tryf.prog 11 #[.int .i64 n, .string s] w fun e w' => e = .returned (.bool true) ∧ Below w.heap.size w w' := by
  have hw := textQ_any s w hs
  unfold maxLen at hs
  have hz := zeroRe
  by_cases h1 : s.size ≤ 2147483647
  · have d1 : decide ((2147483647 : Int) < (s.size : Int)) = false := by simp; omega
    by_cases hn0 : n < 0
    · have d2 : decide (n < 0) = true := by simpa using hn0
      clear h hw
      go_enter Tryf.func11, Tryf.ntmps11
      go_wp2
      go_ret
      exact ⟨rfl, Below.refl _ _⟩
    · have d2 : decide (n < 0) = false := by simp; omega
      by_cases hn1 : 50 < n
      · have d3 : decide ((50 : Int) < n) = true := by simpa using hn1
        clear h hw
        go_enter Tryf.func11, Tryf.ntmps11
        go_wp2
        go_ret
        exact ⟨rfl, Below.refl _ _⟩
      · have d3 : decide ((50 : Int) < n) = false := by simp; omega
        obtain ⟨k, rfl⟩ : ∃ k : Nat, n = k := ⟨n.toNat, by omega⟩
        have hk : k ≤ 50 := by omega
        cases hwd : Pat.textQ s.data.toList with
        | false =>
          rw [hwd] at hw
          have HW0 := Lib.hid hw
          clear hw hwd h
          go_enter Tryf.func11, Tryf.ntmps11
          go_wp2_with fail
          refine HW0.out.mono ?_
          rintro e w' ⟨rfl, rfl⟩
          go_wp2_with fail
          go_ret
          exact ⟨rfl, Below.refl _ _⟩
        | true =>
          rw [hwd] at hw
          have HW0 := Lib.hid hw
          have hg4 := any_found s.data.toList (textQ_asc _ hwd) k
          rw [Pat.size_toList, show decide (s.size = k) = ((s.size : Int) == (k : Int)) from by rw [Bool.eq_iff_iff]; simp; omega] at hg4
          have hg1 : regexpM mdE true false false (qm k) = .ok (bs (Re.pr (gAll true false false (List.replicate k 63)))) := by
            have := reg_ent (qm k) (by rw [nums_qm]; intro c hc; rw [List.eq_of_mem_replicate hc]; decide)
            rwa [nums_qm] at this
          have hgo := gAll_ok true false false (List.replicate k 63) (by intro c hc; rw [List.eq_of_mem_replicate hc]; decide)
          have hgl : (Re.pr (gAll true false false (List.replicate k 63))).length ≤ 274877906944 := Nat.le_trans (all_len _ _ _ _) (by simp; omega)
          generalize gAll true false false (List.replicate k 63) = g at *
          have HI := Lib.hid (impl_g F (qm k) pe 4 mdE true false false w moE mxE h (by rw [qm_size]; omega) g hg1)
          have HR : Hid (∀ V : World, Calls Tryf.prog 18 #[.string ⟨(bs (Re.pr g)).toArray⟩] V fun e w' => ∃ c, e = .returned (.tuple #[.agg c, .bool true]) ∧ Nd (fun x => V.heap.size ≤ x) w' 3 Re.no128 (Re.lists g false false) 0 0 c ∧ Below V.heap.size V w') := Lib.hid fun V => read_g g hgo.2 hgo.1 hgl V
          have H := Lib.hid h
          clear hw hwd h hg1 hgo hgl hn0 hn1
          go_enter Tryf.func11, Tryf.ntmps11
          go_wp2_with fail
          refine HW0.out.mono ?_
          rintro e w' ⟨rfl, rfl⟩
          go_wp2_with fail
          go_loopg [5, 6] k (fun gk s5 s6 wx => ∃ j : Nat, j + gk = k ∧ s6 = .int .i64 j ∧ s5 = .string (qm j) ∧ wx = w)
          case atStart => exact ⟨0, by omega, rfl, rfl, rfl⟩
          case round =>
            obtain ⟨j, hjg, rfl, rfl, rfl⟩ := hrel
            cases gk with
            | zero =>
              obtain rfl : j = k := by omega
              go_wp2_with fail
              refine HI.out.mono ?_
              rintro e w1 ⟨⟨gv, rfl⟩, hb⟩
              have HB := Lib.hid hb
              clear hb HI HW0
              go_wp2_with fail
              refine (HR.out w1).mono ?_
              rintro e w2 ⟨c, rfl, hn, hb2⟩
              have hcs := hn.size
              have n3 : nodeAt (w2.alloc (.cells reZ tRe)) (.pointer (some ⟨w2.heap.size, 0, none⟩)) := ⟨_, reZ, rfl, heap_alloc_new w2 _, rfl⟩
              have n4 : oneNode (.agg c) := ⟨c, rfl, hcs, hn.oneC⟩
              have HN := Lib.hid hn
              have HB2 := Lib.hid (HB.out.trans (hb2.mono HB.out.size))
              clear hn hb2 HR
              go_upto_region 12 with fail
              clear n3 n4
              simp only [blkOf, World.setRow_alloc_new]
              obtain ⟨p1, p2⟩ := box_at (w := w2) hcs
              obtain ⟨W3, hW3⟩ : ∃ W3, w2.alloc (.cells c tRe) = W3 := ⟨_, rfl⟩
              have k3 : Kp (fun _ => False) w2 W3 := by rw [← hW3]; exact (Kp.refl _ _).alloc _
              have b3 : W3.heap[w2.heap.size]? = some (.cells c tRe (0, 0)) := by rw [← hW3]; exact heap_alloc_new w2 _
              rw [hW3] at p1 p2
              rw [hW3]
              clear hW3
              have N3 : Hid (Nd (fun _ => True) W3 3 Re.no128 (Re.lists g false false) 0 0 c) := Lib.hid ((HN.out.mono (fun _ _ _ => trivial)).kept k3 (fun _ _ => id))
              have H3 := Lib.hid (HB2.out.trans ((Kp.below k3 (Nat.le_refl _) (fun _ _ => id)).mono HB2.out.size))
              have B3 := Lib.hid b3
              clear k3 b3 HN HB2
              have F0 := Lib.hid (found_g g W3 c s N3.out (by omega))
              go_wp2_with fail
              refine F0.out.mono ?_
              rintro e w4 ⟨rfl, hb4⟩
              have k4 := Kp.of_below (X := fun _ => False) hb4
              have b4 := k4.heap id B3.out
              have q1 : reOk w4 (.pointer (some ⟨w2.heap.size, 0, none⟩)) := ⟨_, 0, c, rfl, b4, by omega⟩
              have q2 : reAt w4 (.pointer (some ⟨w2.heap.size, 0, none⟩)) = c := by
                rw [reAt_eq b4, List.drop_zero, List.take_of_length_le (by simp; omega)]
              have H4 := Lib.hid (H3.out.trans (hb4.mono H3.out.size))
              have N4 := Lib.hid (N3.out.kept k4 (fun _ _ => id))
              have B4 := Lib.hid b4
              rw [hg4]
              clear hb4 k4 b4 F0 B3 p1 p2 N3 H3
              have HW := Lib.hid (works_any F pe w4 (H.out.below H4.out))
              go_wp2_with fail
              refine HW.out.mono ?_
              rintro e wz ⟨rfl, hbz⟩
              have HZ := Lib.hid (H4.out.trans (hbz.mono H4.out.size))
              clear hbz HW
              go_wp2_with fail
              go_ret
              exact ⟨rfl, HZ.out⟩
            | succ gk =>
              have i0 : (j : Int) < (k : Int) := by omega
              have hqs := qm_size j
              go_wp2
              go_roundg gk
              case measure => omega
              case rel => exact ⟨j + 1, by omega, by go_num, by rw [← qm_succ], rfl⟩
  · have d1 : decide ((2147483647 : Int) < (s.size : Int)) = true := by simp; omega
    clear h
    go_enter Tryf.func11, Tryf.ntmps11
    go_wp2
    go_ret
    exact ⟨rfl, Below.refl _ _⟩
end Go.Proofs.YtjoefmnkbcoblaaFmt
