/- Joined by pack.py: PlS, LawU, PlG, LawG, LawH, LawI, PlX. -/
import Derived.Test.YtjoefmnkbcoblaaFmtP36
/- PLAIN: the star, question marks. No program stands here. -/
namespace Go.Proofs.YtjoefmnkbcoblaaFmt
open Re (G Ato Su gl sq fnd)
set_option linter.unusedVariables false

def mdE : Md := ⟨false, false, false, false⟩
theorem moE : Mo 4 mdE := ⟨rfl, rfl, rfl, rfl, rfl⟩
theorem mxE : Mx 4 true false false := ⟨rfl, rfl, rfl, rfl⟩
theorem reg_ent (s : ByteArray) (h : ∀ c ∈ nums s, pcOk mdE c = true) : regexpM mdE true false false s = .ok (bs (Re.pr (gAll true false false (nums s)))) := reg_plain mdE rfl true false false s h (.inl rfl)
theorem star_found (s : List UInt8) (hs : Re.asc s) : fnd s (gAll true false false [42]) = true := by
  rw [fnd_ent]
  refine ⟨s.length, ?_⟩
  show sq s (.ato .dot .star (.ato .fin .one .done)) false true 0 s.length
  rw [Re.sq_dotstar s hs _ _ _ _ (Nat.zero_le _)]
  exact ⟨s.length, Nat.zero_le _, Nat.le_refl _, (Re.sq_fin s _ _ _ _ _).2 ⟨rfl, rfl⟩⟩
theorem sq_any (s : List UInt8) (hs : Re.asc s) (f : Bool) : ∀ (n : Nat) (r : G) (i j : Nat), sq s (gp (List.replicate n 63) r) f true i j ↔ (n = 0 ∨ i + n ≤ s.length) ∧ sq s r f true (i + n) j
  | 0, r, i, j => by simp [gp]
  | n + 1, r, i, j => by
    have e : gp (List.replicate (n + 1) 63) r = .ato .dot .one (gp (List.replicate n 63) r) := by simp [List.replicate_succ, gp]
    rw [e, Re.sq_dot s hs, sq_any s hs f n r (i + 1) j]
    have e2 : i + 1 + n = i + (n + 1) := by omega
    rw [e2, ← and_assoc]
    refine and_congr_left fun _ => ?_
    omega
theorem any_found (s : List UInt8) (hs : Re.asc s) (n : Nat) : fnd s (gAll true false false (List.replicate n 63)) = decide (s.length = n) := by
  rw [Bool.eq_iff_iff, fnd_ent, decide_eq_true_iff]
  simp only [sq_any s hs, Re.sq_fin, Re.sq_done, Nat.zero_add]
  constructor
  · rintro ⟨j, _, h, _⟩; exact h.symm
  · rintro rfl; exact ⟨s.length, by omega, rfl, rfl⟩
theorem textQ_asc (l : List UInt8) (h : Pat.textQ l = true) : Re.asc l := fun c hc => by
  have := List.all_eq_true.1 h c hc
  simp at this
  omega
/-- question marks -/
def qm (n : Nat) : ByteArray := ⟨(List.replicate n (63 : UInt8)).toArray⟩
theorem qm_succ (n : Nat) : qm n ++ ⟨#[63]⟩ = qm (n + 1) := by
  apply ByteArray.ext
  apply Array.ext'
  rw [ByteArray.data_append]
  simp [qm, List.replicate_succ']
theorem qm_size (n : Nat) : (qm n).size = n := by
  show (List.replicate n (63 : UInt8)).toArray.size = n
  simp
theorem nums_qm (n : Nat) : nums (qm n) = List.replicate n 63 := by simp [nums, qm]
end Go.Proofs.YtjoefmnkbcoblaaFmt

/- Walks: laws.FnRegexpStar, laws.FnRegexpAny. Printed by gen_lawt.py. -/
namespace Go.Proofs.YtjoefmnkbcoblaaFmt
open Go.RowKit Go.Extern.Stop Go.Stop Go.Extern
open Re (Fo G nodeE mean falses trues foundE fnd)
set_option linter.unusedVariables false

attribute [local go_sem ↓] ld_eq st_eq
attribute [local go_sem] run_ldAt run_stRe
set_option maxHeartbeats 1000000 in
set_option maxRecDepth 100000 in
theorem walk_FnRegexpStar (F : Interp) (pe : Addr) (s : ByteArray) (w : World) (h : LW F pe w) (hs : s.size ≤ maxLen) :
    Calls Tryf.prog 13 #[.string s] w fun e w' => e = .returned (.bool true) ∧ Below w.heap.size w w' := by
  have hw := textQ_any s w hs
  unfold maxLen at hs
  have hz := zeroRe
  by_cases h1 : s.size ≤ 2147483647
  · have d1 : decide ((2147483647 : Int) < (s.size : Int)) = false := by simp; omega
    cases hwd : Pat.textQ s.data.toList with
    | false =>
      rw [hwd] at hw
      have HW0 := Lib.hid hw
      clear hw hwd h
      go_enter Tryf.func13, Tryf.ntmps13
      go_wp2_with fail
      refine HW0.out.mono ?_
      rintro e w' ⟨rfl, rfl⟩
      go_wp2_with fail
      go_ret
      exact ⟨rfl, Below.refl _ _⟩
    | true =>
      rw [hwd] at hw
      have HW0 := Lib.hid hw
      have hg4 := star_found s.data.toList (textQ_asc _ hwd)
      have hg1 : regexpM mdE true false false ⟨#[42]⟩ = .ok (bs (Re.pr (gAll true false false [42]))) := reg_ent ⟨#[42]⟩ (by decide)
      have hgo := gAll_ok true false false [42] (by decide)
      have hgl : (Re.pr (gAll true false false [42])).length ≤ 274877906944 := Nat.le_trans (all_len _ _ _ _) (by decide)
      generalize gAll true false false [42] = g at *
      have HI := Lib.hid (impl_g F ⟨#[42]⟩ pe 4 mdE true false false w moE mxE h (by decide) g hg1)
      have HR : Hid (∀ V : World, Calls Tryf.prog 18 #[.string ⟨(bs (Re.pr g)).toArray⟩] V fun e w' => ∃ c, e = .returned (.tuple #[.agg c, .bool true]) ∧ Nd (fun x => V.heap.size ≤ x) w' 3 Re.no128 (Re.lists g false false) 0 0 c ∧ Below V.heap.size V w') := Lib.hid fun V => read_g g hgo.2 hgo.1 hgl V
      have H := Lib.hid h
      clear hw hwd h hg1 hgo hgl
      go_enter Tryf.func13, Tryf.ntmps13
      go_wp2_with fail
      refine HW0.out.mono ?_
      rintro e w' ⟨rfl, rfl⟩
      go_wp2_with fail
      refine HI.out.mono ?_
      rintro e w1 ⟨⟨gv, rfl⟩, hb⟩
      have HB := Lib.hid hb
      clear hb HI HW0
      go_wp2_with fail
      refine (HR.out w1).mono ?_
      rintro e w2 ⟨c, rfl, hn, hb2⟩
      have hcs := hn.size
      have n3 : nodeAt (w2.alloc (.cells reZ tRe)) (.pointer (some ⟨w2.heap.size, 0, none⟩)) := ⟨_, reZ, rfl, heap_alloc_new w2 _, rfl⟩
      have n4 : oneNode (.agg c) := ⟨c, rfl, hcs, hn.oneC⟩
      have HN := Lib.hid hn
      have HB2 := Lib.hid (HB.out.trans (hb2.mono HB.out.size))
      clear hn hb2 HR
      go_upto_region 7 with fail
      clear n3 n4
      simp only [blkOf, World.setRow_alloc_new]
      obtain ⟨p1, p2⟩ := box_at (w := w2) hcs
      obtain ⟨W3, hW3⟩ : ∃ W3, w2.alloc (.cells c tRe) = W3 := ⟨_, rfl⟩
      have k3 : Kp (fun _ => False) w2 W3 := by rw [← hW3]; exact (Kp.refl _ _).alloc _
      have b3 : W3.heap[w2.heap.size]? = some (.cells c tRe (0, 0)) := by rw [← hW3]; exact heap_alloc_new w2 _
      rw [hW3] at p1 p2
      rw [hW3]
      clear hW3
      have N3 : Hid (Nd (fun _ => True) W3 3 Re.no128 (Re.lists g false false) 0 0 c) := Lib.hid ((HN.out.mono (fun _ _ _ => trivial)).kept k3 (fun _ _ => id))
      have H3 := Lib.hid (HB2.out.trans ((Kp.below k3 (Nat.le_refl _) (fun _ _ => id)).mono HB2.out.size))
      have B3 := Lib.hid b3
      clear k3 b3 HN HB2
      have F0 := Lib.hid (found_g g W3 c s N3.out (by omega))
      go_wp2_with fail
      refine F0.out.mono ?_
      rintro e w4 ⟨rfl, hb4⟩
      have k4 := Kp.of_below (X := fun _ => False) hb4
      have b4 := k4.heap id B3.out
      have q1 : reOk w4 (.pointer (some ⟨w2.heap.size, 0, none⟩)) := ⟨_, 0, c, rfl, b4, by omega⟩
      have q2 : reAt w4 (.pointer (some ⟨w2.heap.size, 0, none⟩)) = c := by
        rw [reAt_eq b4, List.drop_zero, List.take_of_length_le (by simp; omega)]
      have H4 := Lib.hid (H3.out.trans (hb4.mono H3.out.size))
      have N4 := Lib.hid (N3.out.kept k4 (fun _ _ => id))
      have B4 := Lib.hid b4
      rw [hg4]
      clear hb4 k4 b4 F0 B3 p1 p2 N3 H3
      have HW := Lib.hid (works_any F pe w4 (H.out.below H4.out))
      go_wp2_with fail
      refine HW.out.mono ?_
      rintro e wz ⟨rfl, hbz⟩
      have HZ := Lib.hid (H4.out.trans (hbz.mono H4.out.size))
      clear hbz HW
      go_wp2_with fail
      go_ret
      exact ⟨rfl, HZ.out⟩
  · have d1 : decide ((2147483647 : Int) < (s.size : Int)) = true := by simp; omega
    clear h
    go_enter Tryf.func13, Tryf.ntmps13
    go_wp2
    go_ret
    exact ⟨rfl, Below.refl _ _⟩
set_option maxHeartbeats 2000000 in
set_option maxRecDepth 100000 in
theorem walk_FnRegexpAny (F : Interp) (pe : Addr) (n : Int) (s : ByteArray) (w : World) (h : LW F pe w) (hs : s.size ≤ maxLen) :
    Calls Tryf.prog 11 #[.int .i64 n, .string s] w fun e w' => e = .returned (.bool true) ∧ Below w.heap.size w w' := by
  have hw := textQ_any s w hs
  unfold maxLen at hs
  have hz := zeroRe
  by_cases h1 : s.size ≤ 2147483647
  · have d1 : decide ((2147483647 : Int) < (s.size : Int)) = false := by simp; omega
    by_cases hn0 : n < 0
    · have d2 : decide (n < 0) = true := by simpa using hn0
      clear h hw
      go_enter Tryf.func11, Tryf.ntmps11
      go_wp2
      go_ret
      exact ⟨rfl, Below.refl _ _⟩
    · have d2 : decide (n < 0) = false := by simp; omega
      by_cases hn1 : 50 < n
      · have d3 : decide ((50 : Int) < n) = true := by simpa using hn1
        clear h hw
        go_enter Tryf.func11, Tryf.ntmps11
        go_wp2
        go_ret
        exact ⟨rfl, Below.refl _ _⟩
      · have d3 : decide ((50 : Int) < n) = false := by simp; omega
        obtain ⟨k, rfl⟩ : ∃ k : Nat, n = k := ⟨n.toNat, by omega⟩
        have hk : k ≤ 50 := by omega
        cases hwd : Pat.textQ s.data.toList with
        | false =>
          rw [hwd] at hw
          have HW0 := Lib.hid hw
          clear hw hwd h
          go_enter Tryf.func11, Tryf.ntmps11
          go_wp2_with fail
          refine HW0.out.mono ?_
          rintro e w' ⟨rfl, rfl⟩
          go_wp2_with fail
          go_ret
          exact ⟨rfl, Below.refl _ _⟩
        | true =>
          rw [hwd] at hw
          have HW0 := Lib.hid hw
          have hg4 := any_found s.data.toList (textQ_asc _ hwd) k
          rw [Pat.size_toList, show decide (s.size = k) = ((s.size : Int) == (k : Int)) from by rw [Bool.eq_iff_iff]; simp; omega] at hg4
          have hg1 : regexpM mdE true false false (qm k) = .ok (bs (Re.pr (gAll true false false (List.replicate k 63)))) := by
            have := reg_ent (qm k) (by rw [nums_qm]; intro c hc; rw [List.eq_of_mem_replicate hc]; decide)
            rwa [nums_qm] at this
          have hgo := gAll_ok true false false (List.replicate k 63) (by intro c hc; rw [List.eq_of_mem_replicate hc]; decide)
          have hgl : (Re.pr (gAll true false false (List.replicate k 63))).length ≤ 274877906944 := Nat.le_trans (all_len _ _ _ _) (by simp; omega)
          generalize gAll true false false (List.replicate k 63) = g at *
          have HI := Lib.hid (impl_g F (qm k) pe 4 mdE true false false w moE mxE h (by rw [qm_size]; omega) g hg1)
          have HR : Hid (∀ V : World, Calls Tryf.prog 18 #[.string ⟨(bs (Re.pr g)).toArray⟩] V fun e w' => ∃ c, e = .returned (.tuple #[.agg c, .bool true]) ∧ Nd (fun x => V.heap.size ≤ x) w' 3 Re.no128 (Re.lists g false false) 0 0 c ∧ Below V.heap.size V w') := Lib.hid fun V => read_g g hgo.2 hgo.1 hgl V
          have H := Lib.hid h
          clear hw hwd h hg1 hgo hgl hn0 hn1
          go_enter Tryf.func11, Tryf.ntmps11
          go_wp2_with fail
          refine HW0.out.mono ?_
          rintro e w' ⟨rfl, rfl⟩
          go_wp2_with fail
          go_loopg [5, 6] k (fun gk s5 s6 wx => ∃ j : Nat, j + gk = k ∧ s6 = .int .i64 j ∧ s5 = .string (qm j) ∧ wx = w)
          case atStart => exact ⟨0, by omega, rfl, rfl, rfl⟩
          case round =>
            obtain ⟨j, hjg, rfl, rfl, rfl⟩ := hrel
            cases gk with
            | zero =>
              obtain rfl : j = k := by omega
              go_wp2_with fail
              refine HI.out.mono ?_
              rintro e w1 ⟨⟨gv, rfl⟩, hb⟩
              have HB := Lib.hid hb
              clear hb HI HW0
              go_wp2_with fail
              refine (HR.out w1).mono ?_
              rintro e w2 ⟨c, rfl, hn, hb2⟩
              have hcs := hn.size
              have n3 : nodeAt (w2.alloc (.cells reZ tRe)) (.pointer (some ⟨w2.heap.size, 0, none⟩)) := ⟨_, reZ, rfl, heap_alloc_new w2 _, rfl⟩
              have n4 : oneNode (.agg c) := ⟨c, rfl, hcs, hn.oneC⟩
              have HN := Lib.hid hn
              have HB2 := Lib.hid (HB.out.trans (hb2.mono HB.out.size))
              clear hn hb2 HR
              go_upto_region 12 with fail
              clear n3 n4
              simp only [blkOf, World.setRow_alloc_new]
              obtain ⟨p1, p2⟩ := box_at (w := w2) hcs
              obtain ⟨W3, hW3⟩ : ∃ W3, w2.alloc (.cells c tRe) = W3 := ⟨_, rfl⟩
              have k3 : Kp (fun _ => False) w2 W3 := by rw [← hW3]; exact (Kp.refl _ _).alloc _
              have b3 : W3.heap[w2.heap.size]? = some (.cells c tRe (0, 0)) := by rw [← hW3]; exact heap_alloc_new w2 _
              rw [hW3] at p1 p2
              rw [hW3]
              clear hW3
              have N3 : Hid (Nd (fun _ => True) W3 3 Re.no128 (Re.lists g false false) 0 0 c) := Lib.hid ((HN.out.mono (fun _ _ _ => trivial)).kept k3 (fun _ _ => id))
              have H3 := Lib.hid (HB2.out.trans ((Kp.below k3 (Nat.le_refl _) (fun _ _ => id)).mono HB2.out.size))
              have B3 := Lib.hid b3
              clear k3 b3 HN HB2
              have F0 := Lib.hid (found_g g W3 c s N3.out (by omega))
              go_wp2_with fail
              refine F0.out.mono ?_
              rintro e w4 ⟨rfl, hb4⟩
              have k4 := Kp.of_below (X := fun _ => False) hb4
              have b4 := k4.heap id B3.out
              have q1 : reOk w4 (.pointer (some ⟨w2.heap.size, 0, none⟩)) := ⟨_, 0, c, rfl, b4, by omega⟩
              have q2 : reAt w4 (.pointer (some ⟨w2.heap.size, 0, none⟩)) = c := by
                rw [reAt_eq b4, List.drop_zero, List.take_of_length_le (by simp; omega)]
              have H4 := Lib.hid (H3.out.trans (hb4.mono H3.out.size))
              have N4 := Lib.hid (N3.out.kept k4 (fun _ _ => id))
              have B4 := Lib.hid b4
              rw [hg4]
              clear hb4 k4 b4 F0 B3 p1 p2 N3 H3
              have HW := Lib.hid (works_any F pe w4 (H.out.below H4.out))
              go_wp2_with fail
              refine HW.out.mono ?_
              rintro e wz ⟨rfl, hbz⟩
              have HZ := Lib.hid (H4.out.trans (hbz.mono H4.out.size))
              clear hbz HW
              go_wp2_with fail
              go_ret
              exact ⟨rfl, HZ.out⟩
            | succ gk =>
              have i0 : (j : Int) < (k : Int) := by omega
              have hqs := qm_size j
              go_wp2
              go_roundg gk
              case measure => omega
              case rel => exact ⟨j + 1, by omega, by go_num, by rw [← qm_succ], rfl⟩
  · have d1 : decide ((2147483647 : Int) < (s.size : Int)) = true := by simp; omega
    clear h
    go_enter Tryf.func11, Tryf.ntmps11
    go_wp2
    go_ret
    exact ⟨rfl, Below.refl _ _⟩
end Go.Proofs.YtjoefmnkbcoblaaFmt

/- PLAIN: signs and brackets where groups are not known. No program stands here. -/
namespace Go.Proofs.YtjoefmnkbcoblaaFmt
open Re (G Ato Su gl sq fnd)
set_option linter.unusedVariables false

theorem sq_end (s : List UInt8) (Q : List Nat) (h : ∀ c ∈ Q, litC c) (d : Bool) (i : Nat) : (∃ j, sq s (gp Q (.ato .fin .one .done)) false d i j) ↔ (s.drop i).take Q.length = bs Q ∧ i + Q.length = s.length := by
  have hl : ∀ c ∈ Q, c < 128 := fun c hc => (h c hc).1
  constructor
  · rintro ⟨j, hj⟩
    rw [sq_gp s false d Q _ _ _ h, Re.sq_gl s d Q _ _ _ hl, Re.sq_fin] at hj
    exact ⟨hj.1, hj.2.1⟩
  · rintro ⟨h1, h2⟩
    refine ⟨s.length, ?_⟩
    rw [sq_gp s false d Q _ _ _ h, Re.sq_gl s d Q _ _ _ hl, Re.sq_fin]
    exact ⟨h1, h2, rfl⟩
theorem take_all {s : List UInt8} {i n : Nat} (h : i + n = s.length) : (s.drop i).take n = s.drop i := List.take_of_length_le (by simp; omega)
theorem lits_found (s : List UInt8) (Q : List Nat) (h : ∀ c ∈ Q, litC c) : fnd s (gAll true false false Q) = decide (s = bs Q) := by
  rw [Bool.eq_iff_iff, fnd_ent, decide_eq_true_iff, sq_end s Q h true 0]
  constructor
  · rintro ⟨h1, h2⟩
    rw [take_all h2] at h1
    simpa using h1
  · rintro rfl
    have : (bs Q).length = Q.length := by simp [bs]
    exact ⟨by rw [take_all (by omega)]; rfl, by omega⟩
theorem star_lits (s : List UInt8) (hs : Re.asc s) (Q : List Nat) (h : ∀ c ∈ Q, litC c) : fnd s (gAll true false false (42 :: Q)) = decide (Q.length ≤ s.length ∧ s.drop (s.length - Q.length) = bs Q) := by
  rw [Bool.eq_iff_iff, fnd_ent, decide_eq_true_iff]
  have e : ∀ r, gp (42 :: Q) r = .ato .dot .star (gp Q r) := fun _ => rfl
  rw [e]
  simp only [Re.sq_dotstar s hs _ _ _ _ (Nat.zero_le _)]
  constructor
  · rintro ⟨j, t, _, h1, h2⟩
    obtain ⟨h3, h4⟩ := (sq_end s Q h true t).1 ⟨j, h2⟩
    rw [take_all h4] at h3
    refine ⟨by omega, ?_⟩
    rw [show s.length - Q.length = t from by omega]; exact h3
  · rintro ⟨h1, h2⟩
    obtain ⟨j, hj⟩ := (sq_end s Q h true (s.length - Q.length)).2 ⟨by rw [take_all (by omega)]; exact h2, by omega⟩
    exact ⟨j, s.length - Q.length, Nat.zero_le _, by omega, hj⟩
theorem any_lits (s : List UInt8) (hs : Re.asc s) (Q : List Nat) (h : ∀ c ∈ Q, litC c) : fnd s (gAll true false false (63 :: Q)) = decide (s.length = Q.length + 1 ∧ s.drop 1 = bs Q) := by
  rw [Bool.eq_iff_iff, fnd_ent, decide_eq_true_iff]
  have e : ∀ r, gp (63 :: Q) r = .ato .dot .one (gp Q r) := fun _ => rfl
  rw [e]
  simp only [Re.sq_dot s hs]
  constructor
  · rintro ⟨j, h1, h2⟩
    obtain ⟨h3, h4⟩ := (sq_end s Q h true (0 + 1)).1 ⟨j, h2⟩
    rw [take_all h4] at h3
    exact ⟨by omega, h3⟩
  · rintro ⟨h1, h2⟩
    obtain ⟨j, hj⟩ := (sq_end s Q h true (0 + 1)).2 ⟨by rw [take_all (by omega)]; exact h2, by omega⟩
    exact ⟨j, by omega, hj⟩
/-- a word in brackets -/
def parL (l : List Nat) : List Nat := 40 :: (l ++ [41])
theorem parL_lit (l : List Nat) (h : ∀ c ∈ l, litC c) : ∀ c ∈ parL l, litC c := by
  intro c hc
  simp only [parL, List.mem_cons, List.mem_append, List.not_mem_nil, or_false] at hc
  rcases hc with rfl | hc | rfl
  · exact ⟨by omega, by omega, by omega⟩
  · exact h c hc
  · exact ⟨by omega, by omega, by omega⟩
theorem pcOk_lit (c : Nat) (h : litC c) (h1 : 1 ≤ c) (h2 : c ≠ 91) (h3 : c ≠ 92) : pcOk mdE c = true := by
  simp [pcOk, mdE, h.1, h1, h2, h3]
theorem words_lit (s : ByteArray) (hw : Pat.wordL s.data.toList = true) : ∀ c ∈ nums s, litC c ∧ Re.litOk c = true ∧ ∀ md, pcOk md c = true := by
  intro c hc
  obtain ⟨b, hb, rfl⟩ := List.mem_map.1 hc
  exact word_lit _ (List.all_eq_true.1 hw b hb)
end Go.Proofs.YtjoefmnkbcoblaaFmt

/- Walks: laws.FnGroupPlain, laws.FnGroupPlainText. Printed by gen_lawg.py. -/
namespace Go.Proofs.YtjoefmnkbcoblaaFmt
open Go.RowKit Go.Extern.Stop Go.Stop Go.Extern
open Re (Fo G nodeE mean falses trues foundE fnd)
set_option linter.unusedVariables false

theorem nums_app (a b : ByteArray) : nums (a ++ b) = nums a ++ nums b := by simp [nums, ByteArray.data_append]
theorem size_app (a b : ByteArray) : (a ++ b).size = a.size + b.size := ByteArray.size_append
/-- brackets around a word -/
def parB (a : ByteArray) : ByteArray := ⟨#[40]⟩ ++ a ++ ⟨#[41]⟩
theorem nums_par (a : ByteArray) : nums (parB a) = parL (nums a) := by
  simp [parB, nums_app, parL]
  constructor <;> rfl
theorem parB_size (a : ByteArray) : (parB a).size = a.size + 2 := by
  simp only [parB, size_app]
  show 1 + a.size + 1 = _
  omega
theorem star_par (a : ByteArray) : ∃ p : ByteArray, ByteArray.mk #[42, 40] ++ a ++ ByteArray.mk #[41] = p ∧ nums p = 42 :: parL (nums a) ∧ p.size = a.size + 3 := by
  refine ⟨_, rfl, ?_, ?_⟩
  · simp [nums_app, parL]
    constructor <;> rfl
  · simp only [size_app]
    show 2 + a.size + 1 = _
    omega
theorem any_par (a : ByteArray) : ∃ p : ByteArray, ByteArray.mk #[63, 40] ++ a ++ ByteArray.mk #[41] = p ∧ nums p = 63 :: parL (nums a) ∧ p.size = a.size + 3 := by
  refine ⟨_, rfl, ?_, ?_⟩
  · simp [nums_app, parL]
    constructor <;> rfl
  · simp only [size_app]
    show 2 + a.size + 1 = _
    omega
theorem par_ex (a : ByteArray) : ∃ q : ByteArray, ByteArray.mk #[40] ++ a ++ ByteArray.mk #[41] = q ∧ nums q = parL (nums a) ∧ q.size = a.size + 2 := ⟨_, rfl, nums_par a, parB_size a⟩
theorem parB_list (a : ByteArray) : (parB a).data.toList = bs (parL (nums a)) := by rw [← nums_par, bs_nums]
theorem cut_eq (s q : ByteArray) (h : q.size ≤ s.size) : ((s.extract (s.size - q.size) s.size).toList == q.toList) = decide (s.data.toList.drop (s.size - q.size) = q.data.toList) := by
  rw [toList_data', toList_data', ByteArray.data_extract, Array.toList_extract, List.extract_eq_take_drop, List.take_of_length_le (by rw [List.length_drop, Pat.size_toList]; omega)]
  rw [Bool.eq_iff_iff, beq_iff_eq, decide_eq_true_iff]
attribute [local go_sem ↓] ld_eq st_eq
attribute [local go_sem] run_ldAt run_stRe
set_option maxHeartbeats 2000000 in
set_option maxRecDepth 100000 in
theorem walk_FnGroupPlain (F : Interp) (pe : Addr) (a s : ByteArray) (w : World) (h : LW F pe w) (ha : a.size ≤ maxLen) (hs : s.size ≤ maxLen) :
    Calls Tryf.prog 8 #[.string a, .string s] w fun e w' => e = .returned (.bool true) ∧ Below w.heap.size w w' := by
  have hw := wordOk_any a w ha
  have ht := textQ_any s w hs
  unfold maxLen at hs ha
  have hz := zeroRe
  by_cases h1 : a.size ≤ 2147483647
  · have d1 : decide ((2147483647 : Int) < (a.size : Int)) = false := by simp; omega
    by_cases h2 : s.size ≤ 2147483647
    · have d2 : decide ((2147483647 : Int) < (s.size : Int)) = false := by simp; omega
      cases hwd : Pat.wordL a.data.toList with
      | false =>
        rw [hwd] at hw
        have HW0 := Lib.hid hw
        clear hw hwd h ht
        go_enter Tryf.func8, Tryf.ntmps8
        go_wp2_with fail
        refine HW0.out.mono ?_
        rintro e w' ⟨rfl, rfl⟩
        go_wp2_with fail
        go_ret
        exact ⟨rfl, Below.refl _ _⟩
      | true =>
        rw [hwd] at hw
        have HW0 := Lib.hid hw
        cases htd : Pat.textQ s.data.toList with
        | false =>
          rw [htd] at ht
          have HT0 := Lib.hid ht
          clear hw hwd h ht htd
          go_enter Tryf.func8, Tryf.ntmps8
          go_wp2_with fail
          refine HW0.out.mono ?_
          rintro e w' ⟨rfl, rfl⟩
          go_wp2_with fail
          refine HT0.out.mono ?_
          rintro e w' ⟨rfl, rfl⟩
          go_wp2_with fail
          go_ret
          exact ⟨rfl, Below.refl _ _⟩
        | true =>
          rw [htd] at ht
          have HT0 := Lib.hid ht
          have hlit := words_lit a hwd
          have hQ := parL_lit (nums a) (fun c hc => (hlit c hc).1)
          have hg4 := star_lits s.data.toList (textQ_asc _ htd) (parL (nums a)) hQ
          obtain ⟨pp, hpp, hP, hps⟩ := star_par a
          obtain ⟨qq, hqq, hQ2, hqs⟩ := par_ex a
          have hg1 : regexpM mdE true false false pp = .ok (bs (Re.pr (gAll true false false (42 :: parL (nums a))))) := by
            rw [← hP]
            refine reg_ent _ ?_
            rw [hP]
            intro c hc
            simp only [parL, List.mem_cons, List.mem_append, List.not_mem_nil, or_false] at hc
            rcases hc with rfl | rfl | hc | rfl
            · decide
            · decide
            · exact (hlit c hc).2.2 mdE
            · decide
          have h128 : ∀ c ∈ 42 :: parL (nums a), c < 128 := by
            intro c hc
            rcases List.mem_cons.1 hc with rfl | hc
            · omega
            · exact (hQ c hc).1
          have hgo := gAll_ok true false false (42 :: parL (nums a)) h128
          have hgl : (Re.pr (gAll true false false (42 :: parL (nums a)))).length ≤ 274877906944 := Nat.le_trans (all_len _ _ _ _) (by simp [parL, nums_len]; omega)
          generalize gAll true false false (42 :: parL (nums a)) = g at *
          have HI := Lib.hid (impl_g F pp pe 4 mdE true false false w moE mxE h (by omega) g hg1)
          have HR : Hid (∀ V : World, Calls Tryf.prog 18 #[.string ⟨(bs (Re.pr g)).toArray⟩] V fun e w' => ∃ c, e = .returned (.tuple #[.agg c, .bool true]) ∧ Nd (fun x => V.heap.size ≤ x) w' 3 Re.no128 (Re.lists g false false) 0 0 c ∧ Below V.heap.size V w') := Lib.hid fun V => read_g g hgo.2 hgo.1 hgl V
          have H := Lib.hid h
          have hql : (parL (nums a)).length = qq.size := by rw [← hQ2, nums_len]
          rw [hql, ← hQ2, bs_nums] at hg4
          clear hw hwd h hg1 hgo hgl ht htd hlit hQ hP h128 hql hQ2
          obtain ⟨z, hz1, hz2⟩ : ∃ z : Bool, fnd s.data.toList g = z ∧ ((decide (qq.size ≤ s.size) = false ∧ z = false) ∨ (decide (qq.size ≤ s.size) = true ∧ qq.size ≤ s.size ∧ ((s.extract (s.size - qq.size) s.size).toList == qq.toList) = z)) := by
            refine ⟨_, rfl, ?_⟩
            rw [hg4, Pat.size_toList]
            by_cases hle : qq.size ≤ s.size
            · right
              refine ⟨by simpa using hle, hle, ?_⟩
              rw [cut_eq s qq hle, Bool.eq_iff_iff]
              simp [hle]
            · left
              exact ⟨by simpa using hle, by simp [hle]⟩
          clear hg4 hqs hps
          have HZQ := Lib.hid hz2
          clear hz2
          go_enter Tryf.func8, Tryf.ntmps8
          go_wp2_with fail
          refine HW0.out.mono ?_
          rintro e w' ⟨rfl, rfl⟩
          go_wp2_with fail
          refine HT0.out.mono ?_
          rintro e w' ⟨rfl, rfl⟩
          go_wp2_with fail
          refine HI.out.mono ?_
          rintro e w1 ⟨⟨gv, rfl⟩, hb⟩
          have HB := Lib.hid hb
          clear hb HI HW0 HT0
          rcases HZQ.out with ⟨d3, rfl⟩ | ⟨d3, hle, d4⟩
          · have d3' : decide ((qq.size : Int) ≤ (s.size : Int)) = false := by simp at d3 ⊢; omega
            go_wp2_with fail
            refine (HR.out w1).mono ?_
            rintro e w2 ⟨c, rfl, hn, hb2⟩
            have hcs := hn.size
            have n3 : nodeAt (w2.alloc (.cells reZ tRe)) (.pointer (some ⟨w2.heap.size, 0, none⟩)) := ⟨_, reZ, rfl, heap_alloc_new w2 _, rfl⟩
            have n4 : oneNode (.agg c) := ⟨c, rfl, hcs, hn.oneC⟩
            have HN := Lib.hid hn
            have HB2 := Lib.hid (HB.out.trans (hb2.mono HB.out.size))
            clear hn hb2 HR
            go_upto_region 7 with fail
            clear n3 n4
            simp only [blkOf, World.setRow_alloc_new]
            obtain ⟨p1, p2⟩ := box_at (w := w2) hcs
            obtain ⟨W3, hW3⟩ : ∃ W3, w2.alloc (.cells c tRe) = W3 := ⟨_, rfl⟩
            have k3 : Kp (fun _ => False) w2 W3 := by rw [← hW3]; exact (Kp.refl _ _).alloc _
            have b3 : W3.heap[w2.heap.size]? = some (.cells c tRe (0, 0)) := by rw [← hW3]; exact heap_alloc_new w2 _
            rw [hW3] at p1 p2
            rw [hW3]
            clear hW3
            have N3 : Hid (Nd (fun _ => True) W3 3 Re.no128 (Re.lists g false false) 0 0 c) := Lib.hid ((HN.out.mono (fun _ _ _ => trivial)).kept k3 (fun _ _ => id))
            have H3 := Lib.hid (HB2.out.trans ((Kp.below k3 (Nat.le_refl _) (fun _ _ => id)).mono HB2.out.size))
            have B3 := Lib.hid b3
            clear k3 b3 HN HB2
            have F0 := Lib.hid (found_g g W3 c s N3.out (by omega))
            go_wp2_with fail
            refine F0.out.mono ?_
            rintro e w4 ⟨rfl, hb4⟩
            have k4 := Kp.of_below (X := fun _ => False) hb4
            have b4 := k4.heap id B3.out
            have q1 : reOk w4 (.pointer (some ⟨w2.heap.size, 0, none⟩)) := ⟨_, 0, c, rfl, b4, by omega⟩
            have q2 : reAt w4 (.pointer (some ⟨w2.heap.size, 0, none⟩)) = c := by
              rw [reAt_eq b4, List.drop_zero, List.take_of_length_le (by simp; omega)]
            have H4 := Lib.hid (H3.out.trans (hb4.mono H3.out.size))
            have N4 := Lib.hid (N3.out.kept k4 (fun _ _ => id))
            have B4 := Lib.hid b4
            rw [hz1]
            clear hb4 k4 b4 F0 B3 p1 p2 N3 H3
            have HW := Lib.hid (works_any F pe w4 (H.out.below H4.out))
            go_wp2_with fail
            refine HW.out.mono ?_
            rintro e wz ⟨rfl, hbz⟩
            have HZ := Lib.hid (H4.out.trans (hbz.mono H4.out.size))
            clear hbz HW
            go_wp2_with fail
            go_ret
            exact ⟨rfl, HZ.out⟩
          · have d3' : decide ((qq.size : Int) ≤ (s.size : Int)) = true := by simp; omega
            have i0 : (0 : Int) ≤ (s.size : Int) - (qq.size : Int) := by omega
            have i1 : (s.size : Int) - (qq.size : Int) ≤ (s.size : Int) := by omega
            have i2 : ((s.size : Int) - (qq.size : Int)).toNat = s.size - qq.size := by omega
            cases z
            all_goals
              go_wp2_with fail
              refine (HR.out w1).mono ?_
              rintro e w2 ⟨c, rfl, hn, hb2⟩
              have hcs := hn.size
              have n3 : nodeAt (w2.alloc (.cells reZ tRe)) (.pointer (some ⟨w2.heap.size, 0, none⟩)) := ⟨_, reZ, rfl, heap_alloc_new w2 _, rfl⟩
              have n4 : oneNode (.agg c) := ⟨c, rfl, hcs, hn.oneC⟩
              have HN := Lib.hid hn
              have HB2 := Lib.hid (HB.out.trans (hb2.mono HB.out.size))
              clear hn hb2 HR
              go_upto_region 7 with fail
              clear n3 n4
              simp only [blkOf, World.setRow_alloc_new]
              obtain ⟨p1, p2⟩ := box_at (w := w2) hcs
              obtain ⟨W3, hW3⟩ : ∃ W3, w2.alloc (.cells c tRe) = W3 := ⟨_, rfl⟩
              have k3 : Kp (fun _ => False) w2 W3 := by rw [← hW3]; exact (Kp.refl _ _).alloc _
              have b3 : W3.heap[w2.heap.size]? = some (.cells c tRe (0, 0)) := by rw [← hW3]; exact heap_alloc_new w2 _
              rw [hW3] at p1 p2
              rw [hW3]
              clear hW3
              have N3 : Hid (Nd (fun _ => True) W3 3 Re.no128 (Re.lists g false false) 0 0 c) := Lib.hid ((HN.out.mono (fun _ _ _ => trivial)).kept k3 (fun _ _ => id))
              have H3 := Lib.hid (HB2.out.trans ((Kp.below k3 (Nat.le_refl _) (fun _ _ => id)).mono HB2.out.size))
              have B3 := Lib.hid b3
              clear k3 b3 HN HB2
              have F0 := Lib.hid (found_g g W3 c s N3.out (by omega))
              go_wp2_with fail
              refine F0.out.mono ?_
              rintro e w4 ⟨rfl, hb4⟩
              have k4 := Kp.of_below (X := fun _ => False) hb4
              have b4 := k4.heap id B3.out
              have q1 : reOk w4 (.pointer (some ⟨w2.heap.size, 0, none⟩)) := ⟨_, 0, c, rfl, b4, by omega⟩
              have q2 : reAt w4 (.pointer (some ⟨w2.heap.size, 0, none⟩)) = c := by
                rw [reAt_eq b4, List.drop_zero, List.take_of_length_le (by simp; omega)]
              have H4 := Lib.hid (H3.out.trans (hb4.mono H3.out.size))
              have N4 := Lib.hid (N3.out.kept k4 (fun _ _ => id))
              have B4 := Lib.hid b4
              rw [hz1]
              clear hb4 k4 b4 F0 B3 p1 p2 N3 H3
              have HW := Lib.hid (works_any F pe w4 (H.out.below H4.out))
              go_wp2_with fail
              refine HW.out.mono ?_
              rintro e wz ⟨rfl, hbz⟩
              have HZ := Lib.hid (H4.out.trans (hbz.mono H4.out.size))
              clear hbz HW
              go_wp2_with fail
              go_ret
              exact ⟨rfl, HZ.out⟩
    · have d2 : decide ((2147483647 : Int) < (s.size : Int)) = true := by simp; omega
      clear h hw ht
      go_enter Tryf.func8, Tryf.ntmps8
      go_wp2
      go_ret
      exact ⟨rfl, Below.refl _ _⟩
  · have d1 : decide ((2147483647 : Int) < (a.size : Int)) = true := by simp; omega
    clear h hw ht
    go_enter Tryf.func8, Tryf.ntmps8
    go_wp2
    go_ret
    exact ⟨rfl, Below.refl _ _⟩
end Go.Proofs.YtjoefmnkbcoblaaFmt

/- Walk: laws.FnGroupPlainText. Printed by gen_lawg.py. -/
namespace Go.Proofs.YtjoefmnkbcoblaaFmt
open Go.RowKit Go.Extern.Stop Go.Stop Go.Extern
open Re (Fo G nodeE mean falses trues foundE fnd)
set_option linter.unusedVariables false

attribute [local go_sem ↓] ld_eq st_eq
attribute [local go_sem] run_ldAt run_stRe
theorem lit_par (x : Nat) (hx : x < 256) (a : ByteArray) : ∃ p : ByteArray, ByteArray.mk #[UInt8.ofNat x] ++ ByteArray.mk #[40] ++ a ++ ByteArray.mk #[41] = p ∧ nums p = x :: parL (nums a) ∧ p.size = a.size + 3 := by
  refine ⟨_, rfl, ?_, ?_⟩
  · have e : nums (ByteArray.mk #[UInt8.ofNat x]) = [x] := by simp [nums]; omega
    simp [nums_app, parL, e]
    constructor <;> rfl
  · simp only [size_app]
    show 1 + 1 + a.size + 1 = _
    omega
theorem eq_lists (s p : ByteArray) : (s.toList == p.toList) = decide (s.data.toList = p.data.toList) := by
  rw [toList_data', toList_data', Bool.eq_iff_iff, beq_iff_eq, decide_eq_true_iff]
set_option maxHeartbeats 2000000 in
set_option maxRecDepth 100000 in
theorem plainText_one (F : Interp) (pe : Addr) (a s : ByteArray) (n : Int) (x : Nat) (hx : litC x ∧ 1 ≤ x ∧ x ≠ 91 ∧ x ≠ 92) (hn : (n = 0 ∧ x = 43) ∨ (n = 1 ∧ x = 64) ∨ (n = 2 ∧ x = 33)) (w : World) (h : LW F pe w) (ha : a.size ≤ 2147483647) (hs : s.size ≤ 2147483647) (hwd : Pat.wordL a.data.toList = true) :
    Calls Tryf.prog 10 #[.string a, .int .i64 n, .string s] w fun e w' => e = .returned (.bool true) ∧ Below w.heap.size w w' := by
  have hw := wordOk_any a w (by unfold maxLen; omega)
  have ht := textQ_any s w (by unfold maxLen; omega)
  have hz := zeroRe
  have d1 : decide ((2147483647 : Int) < (a.size : Int)) = false := by simp; omega
  have d2 : decide ((2147483647 : Int) < (s.size : Int)) = false := by simp; omega
  rw [hwd] at hw
  have HW0 := Lib.hid hw
  have hlit := words_lit a hwd
  have hQ : ∀ c ∈ x :: parL (nums a), litC c := fun c hc => by
    rcases List.mem_cons.1 hc with rfl | hc
    · exact hx.1
    · exact parL_lit (nums a) (fun c hc => (hlit c hc).1) c hc
  obtain ⟨pp, hpp, hP, hps⟩ := lit_par x (by have := hx.1.1; omega) a
  have hg1 : regexpM mdE true false false pp = .ok (bs (Re.pr (gAll true false false (x :: parL (nums a))))) := by
    rw [← hP]
    refine reg_ent _ ?_
    rw [hP]
    intro c hc
    simp only [parL, List.mem_cons, List.mem_append, List.not_mem_nil, or_false] at hc
    rcases hc with rfl | rfl | hc | rfl
    · exact pcOk_lit c hx.1 hx.2.1 hx.2.2.1 hx.2.2.2
    · decide
    · exact (hlit c hc).2.2 mdE
    · decide
  have h128 : ∀ c ∈ x :: parL (nums a), c < 128 := fun c hc => (hQ c hc).1
  have hgo := gAll_ok true false false (x :: parL (nums a)) h128
  have hgl : (Re.pr (gAll true false false (x :: parL (nums a)))).length ≤ 274877906944 := Nat.le_trans (all_len _ _ _ _) (by simp [parL, nums_len]; omega)
  have hzp : fnd pp.data.toList (gAll true false false (x :: parL (nums a))) = true := by
    rw [lits_found _ _ hQ, ← hP, bs_nums]; simp
  have hg4 := lits_found s.data.toList _ hQ
  rw [← hP, bs_nums, ← eq_lists, hP] at hg4
  generalize gAll true false false (x :: parL (nums a)) = g at *
  have HI := Lib.hid (impl_g F pp pe 4 mdE true false false w moE mxE h (by omega) g hg1)
  have HR : Hid (∀ V : World, Calls Tryf.prog 18 #[.string ⟨(bs (Re.pr g)).toArray⟩] V fun e w' => ∃ c, e = .returned (.tuple #[.agg c, .bool true]) ∧ Nd (fun x => V.heap.size ≤ x) w' 3 Re.no128 (Re.lists g false false) 0 0 c ∧ Below V.heap.size V w') := Lib.hid fun V => read_g g hgo.2 hgo.1 hgl V
  have H := Lib.hid h
  generalize hzz : (s.toList == pp.toList) = z at hg4
  have hpl : pp.size ≤ 274877906944 := by omega
  clear hw hwd h hg1 hgo hgl hlit hQ hP h128 hps hx
  cases htd : Pat.textQ s.data.toList with
  | false =>
    rw [htd] at ht
    have HT0 := Lib.hid ht
    clear ht htd HI HR
    rcases hn with ⟨rfl, rfl⟩ | ⟨rfl, rfl⟩ | ⟨rfl, rfl⟩
    all_goals
      go_enter Tryf.func10, Tryf.ntmps10
      go_wp2_with fail
      refine HW0.out.mono ?_
      rintro e w' ⟨rfl, rfl⟩
      go_wp2_with fail
      refine HT0.out.mono ?_
      rintro e w' ⟨rfl, rfl⟩
      go_wp2_with fail
      go_ret
      exact ⟨rfl, Below.refl _ _⟩
  | true =>
    rw [htd] at ht
    have HT0 := Lib.hid ht
    clear ht htd
    rcases hn with ⟨rfl, rfl⟩ | ⟨rfl, rfl⟩ | ⟨rfl, rfl⟩
    all_goals
      first
      | (have hp2 : ByteArray.mk #[43] ++ ByteArray.mk #[40] ++ a ++ ByteArray.mk #[41] = pp := hpp)
      | (have hp2 : ByteArray.mk #[64] ++ ByteArray.mk #[40] ++ a ++ ByteArray.mk #[41] = pp := hpp)
      | (have hp2 : ByteArray.mk #[33] ++ ByteArray.mk #[40] ++ a ++ ByteArray.mk #[41] = pp := hpp)
      clear hpp
      have x0 : (ByteArray.mk #[43, 64, 33]).extract 0 1 = ByteArray.mk #[43] := by rfl
      have x1 : (ByteArray.mk #[43, 64, 33]).extract 1 2 = ByteArray.mk #[64] := by rfl
      have x2 : (ByteArray.mk #[43, 64, 33]).extract 2 3 = ByteArray.mk #[33] := by rfl
      go_enter Tryf.func10, Tryf.ntmps10
      go_wp2_with fail
      refine HW0.out.mono ?_
      rintro e w' ⟨rfl, rfl⟩
      go_wp2_with fail
      refine HT0.out.mono ?_
      rintro e w' ⟨rfl, rfl⟩
      go_wp2_with fail
      refine HI.out.mono ?_
      rintro e w1 ⟨⟨gv, rfl⟩, hb⟩
      have HB := Lib.hid hb
      clear hb HI HW0 HT0
      cases z
      all_goals
        go_wp2_with fail
        refine (HR.out w1).mono ?_
        rintro e w2 ⟨c, rfl, hn, hb2⟩
        have hcs := hn.size
        have n3 : nodeAt (w2.alloc (.cells reZ tRe)) (.pointer (some ⟨w2.heap.size, 0, none⟩)) := ⟨_, reZ, rfl, heap_alloc_new w2 _, rfl⟩
        have n4 : oneNode (.agg c) := ⟨c, rfl, hcs, hn.oneC⟩
        have HN := Lib.hid hn
        have HB2 := Lib.hid (HB.out.trans (hb2.mono HB.out.size))
        clear hn hb2 HR
        go_upto_region 8 with fail
        clear n3 n4
        simp only [blkOf, World.setRow_alloc_new]
        obtain ⟨p1, p2⟩ := box_at (w := w2) hcs
        obtain ⟨W3, hW3⟩ : ∃ W3, w2.alloc (.cells c tRe) = W3 := ⟨_, rfl⟩
        have k3 : Kp (fun _ => False) w2 W3 := by rw [← hW3]; exact (Kp.refl _ _).alloc _
        have b3 : W3.heap[w2.heap.size]? = some (.cells c tRe (0, 0)) := by rw [← hW3]; exact heap_alloc_new w2 _
        rw [hW3] at p1 p2
        rw [hW3]
        clear hW3
        have N3 : Hid (Nd (fun _ => True) W3 3 Re.no128 (Re.lists g false false) 0 0 c) := Lib.hid ((HN.out.mono (fun _ _ _ => trivial)).kept k3 (fun _ _ => id))
        have H3 := Lib.hid (HB2.out.trans ((Kp.below k3 (Nat.le_refl _) (fun _ _ => id)).mono HB2.out.size))
        have B3 := Lib.hid b3
        clear k3 b3 HN HB2
        have F0 := Lib.hid (found_g g W3 c pp N3.out hpl)
        go_wp2_with fail
        refine F0.out.mono ?_
        rintro e w4 ⟨rfl, hb4⟩
        have k4 := Kp.of_below (X := fun _ => False) hb4
        have b4 := k4.heap id B3.out
        have q1 : reOk w4 (.pointer (some ⟨w2.heap.size, 0, none⟩)) := ⟨_, 0, c, rfl, b4, by omega⟩
        have q2 : reAt w4 (.pointer (some ⟨w2.heap.size, 0, none⟩)) = c := by
          rw [reAt_eq b4, List.drop_zero, List.take_of_length_le (by simp; omega)]
        have H4 := Lib.hid (H3.out.trans (hb4.mono H3.out.size))
        have N4 := Lib.hid (N3.out.kept k4 (fun _ _ => id))
        have B4 := Lib.hid b4
        rw [hzp]
        clear hb4 k4 b4 F0 B3 p1 p2 N3 H3
        have p1 := q1
        have p2 := q2
        clear q1 q2
        have F1 := Lib.hid (found_g g w4 c s N4.out (by omega))
        go_wp2_with fail
        refine F1.out.mono ?_
        rintro e w5 ⟨rfl, hb5⟩
        have k5 := Kp.of_below (X := fun _ => False) hb5
        have b5 := k5.heap id B4.out
        have q1 : reOk w5 (.pointer (some ⟨w2.heap.size, 0, none⟩)) := ⟨_, 0, c, rfl, b5, by omega⟩
        have q2 : reAt w5 (.pointer (some ⟨w2.heap.size, 0, none⟩)) = c := by
          rw [reAt_eq b5, List.drop_zero, List.take_of_length_le (by simp; omega)]
        have H5 := Lib.hid (H4.out.trans (hb5.mono H4.out.size))
        have N5 := Lib.hid (N4.out.kept k5 (fun _ _ => id))
        have B5 := Lib.hid b5
        rw [hg4]
        clear hb5 k5 b5 F1 B4 p1 p2 N4 H4
        have HW := Lib.hid (works_any F pe w5 (H.out.below H5.out))
        go_wp2_with fail
        refine HW.out.mono ?_
        rintro e wz ⟨rfl, hbz⟩
        have HZ := Lib.hid (H5.out.trans (hbz.mono H5.out.size))
        clear hbz HW
        go_wp2_with fail
        go_ret
        exact ⟨rfl, HZ.out⟩
set_option maxHeartbeats 2000000 in
theorem walk_FnGroupPlainText (F : Interp) (pe : Addr) (a : ByteArray) (n : Int) (s : ByteArray) (w : World) (h : LW F pe w) (ha : a.size ≤ maxLen) (hs : s.size ≤ maxLen) :
    Calls Tryf.prog 10 #[.string a, .int .i64 n, .string s] w fun e w' => e = .returned (.bool true) ∧ Below w.heap.size w w' := by
  have hw := wordOk_any a w ha
  have ht := textQ_any s w hs
  unfold maxLen at hs ha
  by_cases h1 : a.size ≤ 2147483647
  · have d1 : decide ((2147483647 : Int) < (a.size : Int)) = false := by simp; omega
    by_cases h2 : s.size ≤ 2147483647
    · have d2 : decide ((2147483647 : Int) < (s.size : Int)) = false := by simp; omega
      cases hwd : Pat.wordL a.data.toList with
      | false =>
        rw [hwd] at hw
        have HW0 := Lib.hid hw
        clear hw hwd h ht
        go_enter Tryf.func10, Tryf.ntmps10
        go_wp2_with fail
        refine HW0.out.mono ?_
        rintro e w' ⟨rfl, rfl⟩
        go_wp2_with fail
        go_ret
        exact ⟨rfl, Below.refl _ _⟩
      | true =>
        by_cases h3 : 0 ≤ n ∧ n ≤ 2
        · rcases (by omega : n = 0 ∨ n = 1 ∨ n = 2) with e | e | e
          · exact plainText_one F pe a s n 43 ⟨⟨by omega, by omega, by omega⟩, by omega, by omega, by omega⟩ (.inl ⟨e, rfl⟩) w h h1 h2 hwd
          · exact plainText_one F pe a s n 64 ⟨⟨by omega, by omega, by omega⟩, by omega, by omega, by omega⟩ (.inr (.inl ⟨e, rfl⟩)) w h h1 h2 hwd
          · exact plainText_one F pe a s n 33 ⟨⟨by omega, by omega, by omega⟩, by omega, by omega, by omega⟩ (.inr (.inr ⟨e, rfl⟩)) w h h1 h2 hwd
        · rw [hwd] at hw
          have HW0 := Lib.hid hw
          clear hw hwd h ht
          by_cases h4 : n < 0
          · have d4 : decide (n < 0) = true := by simpa using h4
            go_enter Tryf.func10, Tryf.ntmps10
            go_wp2_with fail
            refine HW0.out.mono ?_
            rintro e w' ⟨rfl, rfl⟩
            go_wp2_with fail
            go_ret
            exact ⟨rfl, Below.refl _ _⟩
          · have d4 : decide (n < 0) = false := by simpa using h4
            have d5 : decide ((2 : Int) < n) = true := by simp; omega
            go_enter Tryf.func10, Tryf.ntmps10
            go_wp2_with fail
            refine HW0.out.mono ?_
            rintro e w' ⟨rfl, rfl⟩
            go_wp2_with fail
            go_ret
            exact ⟨rfl, Below.refl _ _⟩
    · have d2 : decide ((2147483647 : Int) < (s.size : Int)) = true := by simp; omega
      clear h hw ht
      go_enter Tryf.func10, Tryf.ntmps10
      go_wp2
      go_ret
      exact ⟨rfl, Below.refl _ _⟩
  · have d1 : decide ((2147483647 : Int) < (a.size : Int)) = true := by simp; omega
    clear h hw ht
    go_enter Tryf.func10, Tryf.ntmps10
    go_wp2
    go_ret
    exact ⟨rfl, Below.refl _ _⟩
end Go.Proofs.YtjoefmnkbcoblaaFmt

/- Walk: laws.FnGroupPlainAny. Printed by gen_lawi.py. -/
namespace Go.Proofs.YtjoefmnkbcoblaaFmt
open Go.RowKit Go.Extern.Stop Go.Stop Go.Extern
open Re (Fo G nodeE mean falses trues foundE fnd)
set_option linter.unusedVariables false

theorem cut1_eq (s q : ByteArray) : ((s.extract 1 s.size).toList == q.toList) = decide (s.data.toList.drop 1 = q.data.toList) := by
  rw [toList_data', toList_data', ByteArray.data_extract, Array.toList_extract, List.extract_eq_take_drop, List.take_of_length_le (by rw [List.length_drop, Pat.size_toList]; omega)]
  rw [Bool.eq_iff_iff, beq_iff_eq, decide_eq_true_iff]
theorem conv_c (w : World) (c : Nat) (hc : c < 256) : (convert 37 9 (.slice (some ⟨w.heap.size, 0, none⟩) 1 1)).run Tryf.prog (w.alloc (.cells #[.int .u8 c] 5)) = .ok (.string ⟨#[UInt8.ofNat c]⟩) (w.alloc (.cells #[.int .u8 c] 5)) := by
  have hx : ((UInt8.ofNat c).toNat : Int) = c := by simp; omega
  have hn := heap_alloc_new w (.cells #[.int .u8 c] 5)
  refine run_convert_bytes_back _ _ _ 5 _ 1 [UInt8.ofNat c] Tryf.underlying37 Tryf.underlying5 Tryf.underlying9 ?_
  intro j hj
  match j, hj with
  | 0, _ =>
    rw [Addr.add_mid, Lib.cell_of_heap hn]
    simp only [List.getElem_cons_zero, hx]
    rfl
attribute [local go_sem ↓] ld_eq st_eq
attribute [local go_sem] run_ldAt run_stRe
set_option maxHeartbeats 2000000 in
set_option maxRecDepth 100000 in
theorem plainAny_in (F : Interp) (pe : Addr) (a s : ByteArray) (c : Nat) (hc0 : 32 ≤ c) (hc1 : c ≤ 126) (w : World) (h : LW F pe w) (ha : a.size ≤ 2147483647) (hs : s.size ≤ 2147483647) (hwd : Pat.wordL a.data.toList = true) (htd : Pat.textQ s.data.toList = true) :
    Calls Tryf.prog 9 #[.string a, .int .u8 c, .string s] w fun e w' => e = .returned (.bool true) ∧ Below w.heap.size w w' := by
  have hw := wordOk_any a w (by unfold maxLen; omega)
  have ht := textQ_any s w (by unfold maxLen; omega)
  have hz := zeroRe
  have d1 : decide ((2147483647 : Int) < (a.size : Int)) = false := by simp; omega
  have d2 : decide ((2147483647 : Int) < (s.size : Int)) = false := by simp; omega
  have e1 : decide ((c : Int) < 32) = false := by simp; omega
  have e2 : decide ((126 : Int) < (c : Int)) = false := by simp; omega
  rw [hwd] at hw
  rw [htd] at ht
  have HW0 := Lib.hid hw
  have HT0 := Lib.hid ht
  have hlit := words_lit a hwd
  have hQ := parL_lit (nums a) (fun c hc => (hlit c hc).1)
  obtain ⟨pp, hpp, hP, hps⟩ := any_par a
  obtain ⟨qq, hqq, hQ2, hqs⟩ := par_ex a
  have hg1 : regexpM mdE true false false pp = .ok (bs (Re.pr (gAll true false false (63 :: parL (nums a))))) := by
    rw [← hP]
    refine reg_ent _ ?_
    rw [hP]
    intro c hc
    simp only [parL, List.mem_cons, List.mem_append, List.not_mem_nil, or_false] at hc
    rcases hc with rfl | rfl | hc | rfl
    · decide
    · decide
    · exact (hlit c hc).2.2 mdE
    · decide
  have h128 : ∀ c ∈ 63 :: parL (nums a), c < 128 := by
    intro c hc
    rcases List.mem_cons.1 hc with rfl | hc
    · omega
    · exact (hQ c hc).1
  have hgo := gAll_ok true false false (63 :: parL (nums a)) h128
  have hgl : (Re.pr (gAll true false false (63 :: parL (nums a)))).length ≤ 274877906944 := Nat.le_trans (all_len _ _ _ _) (by simp [parL, nums_len]; omega)
  have hql : (parL (nums a)).length = qq.size := by rw [← hQ2, nums_len]
  have hqa : Re.asc qq.data.toList := by
    rw [← bs_nums, hQ2]
    intro b hb
    obtain ⟨x, hx, rfl⟩ := List.mem_map.1 hb
    have := (hQ x hx).1
    simp; omega
  have hg4 := any_lits s.data.toList (textQ_asc _ htd) (parL (nums a)) hQ
  rw [hql, ← hQ2, bs_nums, Pat.size_toList, hQ2] at hg4
  obtain ⟨tt, htt, htl⟩ : ∃ tt : ByteArray, (ByteArray.mk #[UInt8.ofNat c] ++ qq) = tt ∧ fnd tt.data.toList (gAll true false false (63 :: parL (nums a))) = true ∧ tt.size = qq.size + 1 := by
    refine ⟨_, rfl, ?_, ?_⟩
    · have e : (ByteArray.mk #[UInt8.ofNat c] ++ qq).data.toList = UInt8.ofNat c :: qq.data.toList := by simp [ByteArray.data_append]
      rw [e, any_lits _ ?_ _ hQ, hql, ← hQ2, bs_nums]
      · simp
      · intro b hb
        rcases List.mem_cons.1 hb with rfl | hb
        · simp; omega
        · exact hqa b hb
    · simp only [size_app]
      show 1 + qq.size = _
      omega
  obtain ⟨ht1, ht2⟩ := htl
  generalize gAll true false false (63 :: parL (nums a)) = g at *
  have HI := Lib.hid (impl_g F pp pe 4 mdE true false false w moE mxE h (by omega) g hg1)
  have HR : Hid (∀ V : World, Calls Tryf.prog 18 #[.string ⟨(bs (Re.pr g)).toArray⟩] V fun e w' => ∃ c, e = .returned (.tuple #[.agg c, .bool true]) ∧ Nd (fun x => V.heap.size ≤ x) w' 3 Re.no128 (Re.lists g false false) 0 0 c ∧ Below V.heap.size V w') := Lib.hid fun V => read_g g hgo.2 hgo.1 hgl V
  have H := Lib.hid h
  have htl : tt.size ≤ 274877906944 := by omega
  have hq9 : qq.size ≤ 2147483649 := by omega
  obtain ⟨z, hz1, hz2⟩ : ∃ z : Bool, fnd s.data.toList g = z ∧ ((((s.size : Int) == (qq.size : Int) + 1) = false ∧ z = false) ∨ (((s.size : Int) == (qq.size : Int) + 1) = true ∧ 1 ≤ s.size ∧ ((s.extract 1 s.size).toList == qq.toList) = z)) := by
    refine ⟨_, rfl, ?_⟩
    rw [hg4]
    by_cases hle : s.size = qq.size + 1
    · right
      refine ⟨by simp; omega, by omega, ?_⟩
      rw [cut1_eq, Bool.eq_iff_iff]
      simp [hle]
    · left
      exact ⟨by simp; omega, by simp [hle]⟩
  have HZQ := Lib.hid hz2
  clear hw hwd h hg1 hgo hgl ht htd hlit hQ hP h128 hql hQ2 hg4 hz2 hqs hps hqa ht2
  go_enter Tryf.func9, Tryf.ntmps9
  go_wp2_with fail
  refine HW0.out.mono ?_
  rintro e w' ⟨rfl, rfl⟩
  go_wp2_with fail
  refine HT0.out.mono ?_
  rintro e w' ⟨rfl, rfl⟩
  go_wp2_with fail
  refine HI.out.mono ?_
  rintro e w1 ⟨⟨gv, rfl⟩, hb⟩
  have HB := Lib.hid hb
  clear hb HI HW0 HT0
  go_wp2_with fail
  refine (HR.out w1).mono ?_
  rintro e w2 ⟨c2, rfl, hn, hb2⟩
  have hcs := hn.size
  have n3 : nodeAt (w2.alloc (.cells reZ tRe)) (.pointer (some ⟨w2.heap.size, 0, none⟩)) := ⟨_, reZ, rfl, heap_alloc_new w2 _, rfl⟩
  have n4 : oneNode (.agg c2) := ⟨c2, rfl, hcs, hn.oneC⟩
  have HN := Lib.hid hn
  have HB2 := Lib.hid (HB.out.trans (hb2.mono HB.out.size))
  clear hn hb2 HR
  go_upto_region 7 with fail
  clear n3 n4
  simp only [blkOf, World.setRow_alloc_new]
  obtain ⟨p1, p2⟩ := box_at (w := w2) hcs
  obtain ⟨W3, hW3⟩ : ∃ W3, w2.alloc (.cells c2 tRe) = W3 := ⟨_, rfl⟩
  have k3 : Kp (fun _ => False) w2 W3 := by rw [← hW3]; exact (Kp.refl _ _).alloc _
  have b3 : W3.heap[w2.heap.size]? = some (.cells c2 tRe (0, 0)) := by rw [← hW3]; exact heap_alloc_new w2 _
  rw [hW3] at p1 p2
  rw [hW3]
  clear hW3
  have N3 : Hid (Nd (fun _ => True) W3 3 Re.no128 (Re.lists g false false) 0 0 c2) := Lib.hid ((HN.out.mono (fun _ _ _ => trivial)).kept k3 (fun _ _ => id))
  have H3 := Lib.hid (HB2.out.trans ((Kp.below k3 (Nat.le_refl _) (fun _ _ => id)).mono HB2.out.size))
  have B3 := Lib.hid b3
  clear k3 b3 HN HB2
  have hcv := conv_c W3 c (by omega)
  have F0 := Lib.hid (found_g g (W3.alloc (.cells #[.int .u8 c] 5)) c2 tt (N3.out.kept (Kp.alloc (X := fun _ => False) (Kp.refl _ W3) _) (fun _ _ => id)) htl)
  have hlt3 : w2.heap.size < W3.heap.size := (Array.getElem?_eq_some_iff.1 B3.out).1
  go_wp2_with fail
  refine F0.out.mono ?_
  rintro e w4 ⟨rfl, hb4⟩
  have k4 : Kp (fun _ => False) W3 w4 := (Kp.alloc (Kp.refl _ W3) _).trans (Kp.of_below hb4)
  have b4 := k4.heap id B3.out
  have q1 : reOk w4 (.pointer (some ⟨w2.heap.size, 0, none⟩)) := ⟨_, 0, c2, rfl, b4, by omega⟩
  have q2 : reAt w4 (.pointer (some ⟨w2.heap.size, 0, none⟩)) = c2 := by
    rw [reAt_eq b4, List.drop_zero, List.take_of_length_le (by simp; omega)]
  have H4 := Lib.hid (H3.out.trans ((Kp.below k4 (Nat.le_refl _) (fun _ _ => id)).mono H3.out.size))
  have N4 := Lib.hid (N3.out.kept k4 (fun _ _ => id))
  have B4 := Lib.hid b4
  rw [ht1]
  clear hb4 k4 b4 F0 B3 p1 p2 N3 H3 hcv hlt3
  have F1 := Lib.hid (found_g g w4 c2 s N4.out (by omega))
  go_wp2_with fail
  refine F1.out.mono ?_
  rintro e w5 ⟨rfl, hb5⟩
  have H5 := Lib.hid (H4.out.trans (hb5.mono H4.out.size))
  rw [hz1]
  clear hb5 F1 B4 q1 q2 N4 H4
  have HW := Lib.hid (works_any F pe w5 (H.out.below H5.out))
  rcases HZQ.out with ⟨d3, rfl⟩ | ⟨d3, hle, d4⟩
  · go_wp2_with fail
    refine HW.out.mono ?_
    rintro e wz ⟨rfl, hbz⟩
    have HZ := Lib.hid (H5.out.trans (hbz.mono H5.out.size))
    clear hbz HW
    go_wp2_with fail
    go_ret
    exact ⟨rfl, HZ.out⟩
  · have i0 : (1 : Int) ≤ (s.size : Int) := by omega
    cases z
    all_goals
      go_wp2_with fail
      refine HW.out.mono ?_
      rintro e wz ⟨rfl, hbz⟩
      have HZ := Lib.hid (H5.out.trans (hbz.mono H5.out.size))
      clear hbz HW
      go_wp2_with fail
      go_ret
      exact ⟨rfl, HZ.out⟩
set_option maxHeartbeats 2000000 in
theorem walk_FnGroupPlainAny (F : Interp) (pe : Addr) (a : ByteArray) (c : Int) (s : ByteArray) (w : World) (h : LW F pe w) (ha : a.size ≤ maxLen) (hc : 0 ≤ c ∧ c ≤ 255) (hs : s.size ≤ maxLen) :
    Calls Tryf.prog 9 #[.string a, .int .u8 c, .string s] w fun e w' => e = .returned (.bool true) ∧ Below w.heap.size w w' := by
  have hw := wordOk_any a w ha
  have ht := textQ_any s w hs
  unfold maxLen at hs ha
  by_cases h1 : a.size ≤ 2147483647
  · have d1 : decide ((2147483647 : Int) < (a.size : Int)) = false := by simp; omega
    by_cases h2 : s.size ≤ 2147483647
    · have d2 : decide ((2147483647 : Int) < (s.size : Int)) = false := by simp; omega
      cases hwd : Pat.wordL a.data.toList with
      | false =>
        rw [hwd] at hw
        have HW0 := Lib.hid hw
        clear hw hwd h ht
        go_enter Tryf.func9, Tryf.ntmps9
        go_wp2_with fail
        refine HW0.out.mono ?_
        rintro e w' ⟨rfl, rfl⟩
        go_wp2_with fail
        go_ret
        exact ⟨rfl, Below.refl _ _⟩
      | true =>
        by_cases h3 : c < 32
        · rw [hwd] at hw
          have HW0 := Lib.hid hw
          have d3 : decide (c < 32) = true := by simpa using h3
          clear hw hwd h ht
          go_enter Tryf.func9, Tryf.ntmps9
          go_wp2_with fail
          refine HW0.out.mono ?_
          rintro e w' ⟨rfl, rfl⟩
          go_wp2_with fail
          go_ret
          exact ⟨rfl, Below.refl _ _⟩
        · have d3 : decide (c < 32) = false := by simp; omega
          by_cases h4 : 126 < c
          · rw [hwd] at hw
            have HW0 := Lib.hid hw
            have d4 : decide ((126 : Int) < c) = true := by simpa using h4
            clear hw hwd h ht
            go_enter Tryf.func9, Tryf.ntmps9
            go_wp2_with fail
            refine HW0.out.mono ?_
            rintro e w' ⟨rfl, rfl⟩
            go_wp2_with fail
            go_ret
            exact ⟨rfl, Below.refl _ _⟩
          · have d4 : decide ((126 : Int) < c) = false := by simp; omega
            cases htd : Pat.textQ s.data.toList with
            | false =>
              rw [hwd] at hw
              rw [htd] at ht
              have HW0 := Lib.hid hw
              have HT0 := Lib.hid ht
              clear hw hwd h ht htd
              go_enter Tryf.func9, Tryf.ntmps9
              go_wp2_with fail
              refine HW0.out.mono ?_
              rintro e w' ⟨rfl, rfl⟩
              go_wp2_with fail
              refine HT0.out.mono ?_
              rintro e w' ⟨rfl, rfl⟩
              go_wp2_with fail
              go_ret
              exact ⟨rfl, Below.refl _ _⟩
            | true =>
              obtain ⟨n, rfl⟩ : ∃ n : Nat, c = n := ⟨c.toNat, by omega⟩
              exact plainAny_in F pe a s n (by omega) (by omega) w h h1 h2 hwd htd
    · have d2 : decide ((2147483647 : Int) < (s.size : Int)) = true := by simp; omega
      clear h hw ht
      go_enter Tryf.func9, Tryf.ntmps9
      go_wp2
      go_ret
      exact ⟨rfl, Below.refl _ _⟩
  · have d1 : decide ((2147483647 : Int) < (a.size : Int)) = true := by simp; omega
    clear h hw ht
    go_enter Tryf.func9, Tryf.ntmps9
    go_wp2
    go_ret
    exact ⟨rfl, Below.refl _ _⟩
end Go.Proofs.YtjoefmnkbcoblaaFmt

/- PLAIN: a group of a word, where groups are known. No program stands here. -/
namespace Go.Proofs.YtjoefmnkbcoblaaFmt
open Re (G Ato Su gl sq fnd)
set_option linter.unusedVariables false

def mdX : Md := ⟨true, false, false, false⟩
theorem moX : Mo 68 mdX := ⟨rfl, rfl, rfl, rfl, rfl⟩
theorem mxX : Mx 68 true false false := ⟨rfl, rfl, rfl, rfl⟩
/-- a word's bytes: no sign of a group, no bracket -/
theorem word_more (c : Nat) (h : Pat.wordI c = true) : isOp c = false ∧ c ≠ 41 ∧ c ≠ 124 ∧ c ≠ 0 ∧ c < 128 ∧ pcW c = [c] := by
  have hc : c < 128 := by simp [Pat.wordI, Pat.letterI] at h; omega
  have hs : ∀ c, c < 128 → Pat.wordI (c : Nat) = true → isOp c = false ∧ c ≠ 41 ∧ c ≠ 124 ∧ c ≠ 0 ∧ c < 128 ∧ pcW c = [c] := by decide
  exact hs c hc h
theorem next_word (md : Md) (s : ByteArray) (f i : Nat) (hi : i < s.size) (h : Pat.wordI (s[i]).toNat = true) : next md s (f + 1) i = ⟨0, 0, i + 1, bs [(s[i]).toNat]⟩ := by
  obtain ⟨h1, _, _, _, h5, h6⟩ := word_more _ h
  unfold next
  rw [nx_at s i hi h5]
  simp only [h1, Bool.and_false, Bool.false_and, Bool.false_eq_true, if_false]
  rw [rest_plain md s _ _ ((word_lit _ h).2.2 md), h6]
theorem grp_word (md : Md) (s : ByteArray) (f : Nat) : ∀ (l r : List Nat) (k j : Nat) (acc : List UInt8), (nums s).drop j = l ++ 41 :: r → (∀ c ∈ l, Pat.wordI (c : Nat) = true) → l.length < k → grp (next md s (f + 1)) s k j acc = .closed (j + l.length) (acc ++ bs l)
  | [], r, k + 1, j, acc, hd, _, _ => by
    have hj : j < s.size := by
      rw [← nums_len]
      rcases Nat.lt_or_ge j (nums s).length with h | h
      · exact h
      · rw [List.drop_of_length_le h] at hd; cases hd
    rw [nums_drop s j hj] at hd
    have h41 : (s[j]).toNat = 41 := by simp at hd; exact hd.1
    unfold grp
    rw [nx_at s j hj (by omega), h41]
    simp [bs]
  | c :: l, r, k + 1, j, acc, hd, hw, hk => by
    have hj : j < s.size := by
      rw [← nums_len]
      rcases Nat.lt_or_ge j (nums s).length with h | h
      · exact h
      · rw [List.drop_of_length_le h] at hd; cases hd
    rw [nums_drop s j hj] at hd
    simp only [List.cons_append, List.cons.injEq] at hd
    have hc := hw c (by simp)
    rw [← hd.1] at hc
    obtain ⟨h1, h2, h3, h4, h5, h6⟩ := word_more _ hc
    unfold grp
    rw [nx_at s j hj h5]
    simp only [if_neg h2, if_neg h3, if_neg h4]
    rw [next_word md s f j hj hc]
    simp only [if_true]
    rw [grp_word md s f l r k (j + 1) _ hd.2 (fun x hx => hw x (by simp [hx])) (by simp at hk; omega), ← hd.1]
    simp [bs]; omega
/-- how often: by the sign -/
def suOf (x : Nat) : Su := if x = 63 then .opt else if x = 42 then .star else if x = 43 then .plus else .one
def gX (x : Nat) (l : List Nat) : G := .flg false false (.ato .beg .one (.grp (gl l .done) (suOf x) (.ato .fin .one .done)))
theorem reg_grp (s : ByteArray) (x : Nat) (hx : x = 63 ∨ x = 42 ∨ x = 43 ∨ x = 64) (l : List Nat) (hs : nums s = x :: 40 :: (l ++ [41])) (hw : ∀ c ∈ l, Pat.wordI (c : Nat) = true) :
    regexpM mdX true false false s = .ok (bs (Re.pr (gX x l))) := by
  have hlen : s.size = l.length + 3 := by rw [← nums_len, hs]; simp
  have h0 : (s[0]'(by omega)).toNat = x := by have := nums_drop s 0 (by omega); rw [hs] at this; simp at this; exact this.symm
  have hd1 : (nums s).drop 1 = 40 :: (l ++ [41]) := by rw [hs]; rfl
  have h1 : (s[1]'(by omega)).toNat = 40 := by have := nums_drop s 1 (by omega); rw [hd1] at this; simp at this; exact this.1.symm
  have hd2 : (nums s).drop 2 = l ++ 41 :: [] := by rw [hs]; rfl
  have hx2 : x < 128 := by omega
  have hop : isOp x = true := by rcases hx with rfl | rfl | rfl | rfl <;> rfl
  have hn0 : nx s 0 = (x, 1) := by rw [nx_at s 0 (by omega) (by omega), h0]
  have hn1 : nx s 1 = (40, 2) := by rw [nx_at s 1 (by omega) (by omega), h1]
  have hdj : (nums s).drop (2 + l.length) = [41] := by rw [← List.drop_drop, hd2]; simp
  have hj : 2 + l.length < s.size := by omega
  have h41 : (s[2 + l.length]'hj).toNat = 41 := by have := nums_drop s _ hj; rw [hdj] at this; simp at this; exact this.1.symm
  have hnj : nx s (2 + l.length) = (41, s.size) := by rw [nx_at s _ hj (by omega), h41]; congr 1; omega
  have hnext : next mdX s (s.size + 1) 0 = ⟨0, 0, s.size, [40] ++ bs l ++ [41] ++ bs (Re.prS (suOf x))⟩ := by
    unfold next
    rw [hn0]
    simp only [hn1, hop, show mdX.ext = true from rfl, Bool.and_self, beq_self_eq_true, if_true]
    obtain ⟨f, hf⟩ : ∃ f, s.size = f + 1 := ⟨l.length + 2, by omega⟩
    have hg := grp_word mdX s f l [] (s.size + 1) 2 [40] hd2 hw (by omega)
    rw [← hf] at hg
    rw [hg]
    simp only [closeG, hnj]
    rcases hx with rfl | rfl | rfl | rfl <;> simp [suOf, Re.prS, en_small, bs]
  unfold regexpM
  rw [if_neg (by simp)]
  have hl1 : loopR mdX s (s.size + 1) 0 (hdr true false false) [] = .done (hdr true false false ++ ([40] ++ bs l ++ [41] ++ bs (Re.prS (suOf x)))) [] := by
    rw [loopR, hnext]
    simp only [show ¬ (0 : Nat) = 1 from by omega, if_false, if_true]
    obtain ⟨f, hf⟩ : ∃ f, s.size = f + 1 := ⟨l.length + 2, by omega⟩
    rw [hf, loopR, ← hf]
    have he : (next mdX s (s.size + 1) s.size).err = 1 := by
      unfold next
      rw [nx_end s s.size (Nat.le_refl _)]
      simp [isOp, rest]
    rw [if_pos he]
  rw [hl1]
  rcases hx with rfl | rfl | rfl | rfl <;> simp [rOut, gX, suOf, Re.pr, Re.prF, Re.prA, Re.prS, Re.pr_gl, hdr, bs]
/-- the same word n times -/
def rep (l : List UInt8) : Nat → List UInt8
  | 0 => []
  | n + 1 => l ++ rep l n
theorem rep_len (l : List UInt8) : ∀ n, (rep l n).length = n * l.length
  | 0 => by simp [rep]
  | n + 1 => by simp [rep, rep_len l n, Nat.succ_mul]; omega
theorem rep_snoc (l : List UInt8) : ∀ n, rep l n ++ l = rep l (n + 1)
  | 0 => by simp [rep]
  | n + 1 => by
    show l ++ rep l n ++ l = l ++ rep l (n + 1)
    rw [List.append_assoc, rep_snoc l n]
theorem alt_word (s : List UInt8) (l : List Nat) (h : ∀ c ∈ l, c < 128) (i t : Nat) : (Re.rel s (Re.lists (gl l .done) false true)).alt i t ↔ (s.drop i).take l.length = bs l ∧ t = i + l.length := by
  rw [Re.alt_lists s _ _ _ _ _ (Re.gl_noBar l .done trivial), Re.sq_gl s true l .done i t h, Re.sq_done]
  exact and_congr_right fun _ => eq_comm
theorem pow_word (s : List UInt8) (l : List Nat) (h : ∀ c ∈ l, c < 128) : ∀ n i t, Re.pow (Re.rel s (Re.lists (gl l .done) false true)).alt n i t ↔ (s.drop i).take (n * l.length) = rep (bs l) n ∧ t = i + n * l.length
  | 0, i, t => by simp [Re.pow, rep]; exact eq_comm
  | n + 1, i, t => by
    have hbl : (bs l).length = l.length := by simp [bs]
    have e : (n + 1) * l.length = l.length + n * l.length := by rw [Nat.succ_mul, Nat.add_comm]
    constructor
    · rintro ⟨k, h1, h2⟩
      obtain ⟨a1, rfl⟩ := (alt_word s l h i k).1 h1
      obtain ⟨a2, rfl⟩ := (pow_word s l h n _ t).1 h2
      refine ⟨?_, by rw [e]; omega⟩
      rw [e, List.take_add, a1, List.drop_drop, a2]
      rfl
    · rintro ⟨h1, rfl⟩
      rw [e, List.take_add, List.drop_drop] at h1
      have h3 : (s.drop i).take l.length = bs l ∧ (s.drop (i + l.length)).take (n * l.length) = rep (bs l) n := by
        have hlen := congrArg List.length h1
        rw [rep_len, hbl, e, List.length_append, List.length_take, List.length_take, List.length_drop, List.length_drop] at hlen
        refine List.append_inj h1 ?_
        rw [List.length_take, List.length_drop, hbl]
        have h6 : n * l.length + l.length = l.length + n * l.length := Nat.add_comm _ _
        omega
      exact ⟨i + l.length, (alt_word s l h i _).2 ⟨h3.1, rfl⟩, (pow_word s l h n _ _).2 ⟨h3.2, by rw [e]; omega⟩⟩
theorem gX_found (s : List UInt8) (x : Nat) (hx : x = 63 ∨ x = 42 ∨ x = 43 ∨ x = 64) (l : List Nat) (h : ∀ c ∈ l, c < 128) :
    fnd s (gX x l) = true ↔ ∃ n : Nat, s = rep (bs l) n ∧ (x = 63 → n ≤ 1) ∧ (x = 43 → 1 ≤ n) ∧ (x = 64 → n = 1) := by
  have hbl : (bs l).length = l.length := by simp [bs]
  have key : ∀ n t, Re.pow (Re.rel s (Re.lists (gl l .done) false true)).alt n 0 t → t = s.length → s = rep (bs l) n := by
    intro n t hp ht
    obtain ⟨h1, h2⟩ := (pow_word s l h n 0 t).1 hp
    rw [List.drop_zero, List.take_of_length_le (by omega)] at h1
    exact h1
  have back : ∀ n, s = rep (bs l) n → Re.pow (Re.rel s (Re.lists (gl l .done) false true)).alt n 0 s.length := by
    intro n hs
    refine (pow_word s l h n 0 _).2 ?_
    have : s.length = n * l.length := by rw [hs, rep_len, hbl]
    exact ⟨by rw [List.drop_zero, List.take_of_length_le (by omega)]; exact hs, by omega⟩
  rw [Re.fnd_iff s (gX x l) trivial]
  have h1 : ∀ i j, Re.sq s (gX x l) false false i j ↔ i = 0 ∧ Re.sq s (.grp (gl l .done) (suOf x) (.ato .fin .one .done)) false true 0 j := by
    intro i j
    rw [gX, Re.sq_flg, Re.sq_beg]; rfl
  simp only [h1]
  rcases hx with rfl | rfl | rfl | rfl
  · simp only [show suOf 63 = Su.opt from rfl, Re.sq_grp_opt, Re.sq_fin, Re.sq_done, Re.timesR]
    constructor
    · rintro ⟨i, j, _, _, t, ⟨n, _, hn, hp⟩, ht, _⟩
      exact ⟨n, key n t hp ht, fun _ => by omega, fun e => by omega, fun e => by omega⟩
    · rintro ⟨n, hs, hn, _, _⟩
      exact ⟨0, s.length, Nat.zero_le _, rfl, s.length, ⟨n, by omega, .inr (by have := hn trivial; omega), back n hs⟩, rfl, rfl⟩
  · simp only [show suOf 42 = Su.star from rfl, Re.sq_grp_star, Re.sq_fin, Re.sq_done, Re.timesR]
    constructor
    · rintro ⟨i, j, _, _, t, ⟨n, _, hn, hp⟩, ht, _⟩
      exact ⟨n, key n t hp ht, fun e => by omega, fun e => by omega, fun e => by omega⟩
    · rintro ⟨n, hs, hn, _, _⟩
      exact ⟨0, s.length, Nat.zero_le _, rfl, s.length, ⟨n, by omega, .inl (by omega), back n hs⟩, rfl, rfl⟩
  · simp only [show suOf 43 = Su.plus from rfl, Re.sq_grp_plus, Re.sq_fin, Re.sq_done, Re.timesR]
    constructor
    · rintro ⟨i, j, _, _, t, ⟨n, hn, _, hp⟩, ht, _⟩
      exact ⟨n, key n t hp ht, fun e => by omega, fun e => by omega, fun e => by omega⟩
    · rintro ⟨n, hs, _, hn, _⟩
      exact ⟨0, s.length, Nat.zero_le _, rfl, s.length, ⟨n, by have := hn trivial; omega, .inl (by omega), back n hs⟩, rfl, rfl⟩
  · simp only [show suOf 64 = Su.one from rfl, Re.sq_grp, Re.sq_fin, Re.sq_done]
    constructor
    · rintro ⟨i, j, _, _, t, hp, ht, _⟩
      refine ⟨1, key 1 t ⟨t, hp, rfl⟩ ht, fun e => by omega, fun e => by omega, fun e => rfl⟩
    · rintro ⟨n, hs, _, _, hn⟩
      obtain rfl := hn trivial
      obtain ⟨k, hp, hk⟩ := back 1 hs
      cases (show k = s.length from hk)
      exact ⟨0, s.length, Nat.zero_le _, rfl, s.length, hp, rfl, rfl⟩
end Go.Proofs.YtjoefmnkbcoblaaFmt
