/- Joined by pack.py: ClH. -/
import Derived.Test.YtpfgmiocdgfniaaGreatFmtP33
set_option linter.unusedVariables false
set_option maxHeartbeats 8000000
set_option maxRecDepth 1000000
namespace Go.Proofs.YtpfgmiocdgfniaaGreatFmt
open Go.RowKit
open Re (CI)
theorem cl_rng_t (rb fb zb ib : Nat) (nt : Bool) (s : ByteArray) (j lo hi' : Nat) (r : List UInt8) (fold dot : Bool) (h : Nat → Bool) (w0 V : World) (Q : Exit → Act → World → Prop) (fuel : Nat) (a : Array Value)
    (hF : CF rb fb zb ib nt true a) (hC : CL rb zb ib fb s j fold dot h w0 V) (hs : s.size ≤ 274877906944) (hok : Re.chOk lo = true) (hok2 : Re.chOk hi' = true) (hle : lo ≤ hi') (hm : Rm s j (UInt8.ofNat lo :: UInt8.ofNat 45 :: UInt8.ofNat hi' :: r))
    (hN : ∀ a' w', CF rb fb zb ib nt false a' → CL rb zb ib fb s (j + 3) fold dot (fun x => h x || (decide (lo ≤ x) && decide (x ≤ hi'))) w0 w' → Code.rounds Tryz.prog clL Q fuel ⟨a', []⟩ w') :
    Code.rounds Tryz.prog clL Q (fuel + 1) ⟨a, []⟩ V := by
  simp only [Re.chOk, Bool.and_eq_true, decide_eq_true_eq, Bool.not_eq_true', Bool.or_eq_false_iff, beq_eq_false_iff_ne] at hok hok2
  obtain ⟨hlo, hne⟩ := hok
  obtain ⟨hhi, hne2⟩ := hok2
  obtain ⟨hi, hat⟩ := hm.at
  have hsz := hm.size
  simp only [List.length_cons] at hsz
  obtain ⟨hi2, hat2⟩ := hm.tail.at
  obtain ⟨hi3, hat3⟩ := hm.tail.tail.at
  have HM3 := Lib.hid hm.tail.tail
  rw [rounds_succ]
  refine CF.open (C := fun a => Code.wp Tryz.prog clL _ ⟨a, []⟩ V) hF fun x => ?_
  have HN := Lib.hid hN
  have HC := Lib.hid hC
  have HM := Lib.hid hm
  have MY := Lib.hid (more_yes rb s j _ _ hm)
  have P93 := Lib.hid (pre_no (l := []) (r := UInt8.ofNat 45 :: UInt8.ofNat hi' :: r) (of_ne (n := 93) hlo (by omega) (by omega)))
  have P91 := Lib.hid (pre_no (l := [58]) (r := UInt8.ofNat 45 :: UInt8.ofNat hi' :: r) (of_ne (n := 91) hlo (by omega) (by omega)))
  have hb7 := hC.b
  clear hN hC hF hm
  simp only [clL, clB, Tryz.f55, Option.getD_some, dl2, dbl', dlo]
  go_wp2_with fail
  refine (MY.out _ HC.out.r).mono ?_
  rintro e w1 ⟨rfl, n, rfl⟩
  have HCX := Lib.hid (HC.out.drew n)
  go_wp2_with fail
  refine (skip_f rb s ⟨#[91, 58]⟩ j true _ _ HCX.out.r (by omega) (by decide) HM.out P91.out).mono ?_
  rintro e w1 ⟨rfl, n3, rfl⟩
  have HC0 := Lib.hid (HCX.out.drew n3)
  obtain ⟨W, hW⟩ : ∃ W, W = (V.drewN n).drewN n3 := ⟨_, rfl⟩
  rw [← hW] at HC0
  rw [← hW]
  clear hW HCX HC
  have hsi : (((s[j]'hi).toNat : Nat) : Int) = (lo : Int) := by rw [hat]; simp; omega
  have l1 : decide ((j : Int) + 1 < (s.size : Int)) = true := by simp; omega
  have l2 : decide (j + 1 < s.size) = true := by simp; omega
  have n92 := ne_u8 (c := lo) (n := 92) (by omega)
  simp only [Int.cast_ofNat_Int] at n92
  have hw1 : IntKind.i64.wrap ((j : Int) + 1) = (j : Int) + 1 := IntWalk.i64_in _ (by omega)
  obtain ⟨r0, r1, r2, _, _, _⟩ := HC0.out.r.cells
  clear hat
  go_wp2
  go_quiet (fail)
  rename Nat => n4
  clear r0 r1 r2 l1 l2 n92 hw1 hsi
  have HC1 := Lib.hid (HC0.out.drew n4)
  clear HC0
  go_wp2_with fail
  refine (single_any rb s j true lo _ _ HC1.out.r (by omega) HM.out hlo (by omega)).mono ?_
  rintro e w2 ⟨rfl, hr2, hk2⟩
  have HC2 := Lib.hid (HC1.out.call hr2 hk2)
  clear hr2 hk2 HC1
  obtain ⟨J, hJ⟩ : ∃ J, j + 1 = J := ⟨_, rfl⟩
  have hJ3 : j + 3 = J + 1 + 1 := by omega
  rw [hJ] at HC2 HM3
  rw [hJ3] at HN
  obtain ⟨r0, r1, r2, fz1, _, _⟩ := HC2.out.r.cells
  have hj2 : J < s.size := by omega
  have hj3 : J + 1 < s.size := by omega
  have hsj : (((s[J]'hj2).toNat : Nat) : Int) = 45 := by subst hJ; rw [hat2]; rfl
  have hsk : (((s[J + 1]'hj3).toNat : Nat) : Int) = (hi' : Int) := by subst hJ; rw [hat3]; simp; omega
  have n93 := ne_u8 (c := hi') (n := 93) (by omega)
  simp only [Int.cast_ofNat_Int] at n93
  have n93b : ((hi' : Int) != 93) = true := by rw [bne, n93]; rfl
  have hw1 : IntKind.i64.wrap ((J : Int) + 1) = (J : Int) + 1 := IntWalk.i64_in _ (by omega)
  have hn1 : ((J : Int) + 1).toNat = J + 1 := by omega
  have hp1 : (0 : Int) ≤ (J : Int) + 1 := by omega
  have hp2 : (J : Int) + 1 < (s.size : Int) := by omega
  have l1 : decide ((J : Int) + 1 < (s.size : Int)) = true := by simp; omega
  have l2 : decide (J + 1 < s.size) = true := by simp; omega
  clear hat2 hat3
  go_wp2
  go_quiet (fail)
  rename Nat => n5
  clear r0 r1 r2 fz1 l1 l2 n93 n93b hw1 hsj hsk hn1 hp1 hp2
  have HC3 := Lib.hid (HC2.out.drew n5)
  clear HC2
  obtain ⟨W3, hW3⟩ : ∃ X, X = w2.drewN n5 := ⟨_, rfl⟩
  rw [← hW3] at HC3
  rw [← hW3]
  clear hW3
  obtain ⟨r0, r1, r2, fz1, _, _⟩ := HC3.out.r.cells
  have HC4 : Hid (CL rb zb ib fb s (J + 1) fold dot h w0 (W3.setCell ⟨rb, 1, none⟩ (.int .i64 ((J : Int) + 1)))) := Lib.hid (HC3.out.at (J + 1))
  have hbj : (J : Int) + 1 ≤ 274877906944 := by omega
  have hbj0 : (0 : Int) ≤ (J : Int) := by omega
  go_wp2_with fail
  refine (single_any rb s (J + 1) true hi' _ _ HC4.out.r (by omega) HM3.out hhi (by omega)).mono ?_
  rintro e w4 ⟨rfl, hr4, hk4⟩
  have HC5 := Lib.hid (HC4.out.call hr4 hk4)
  have hlt1 : decide ((hi' : Int) < (lo : Int)) = false := by simp; omega
  have hlt2 : decide (hi' < lo) = false := by simp; omega
  clear hr4 hk4 HC4 HC3 r0 r1 r2 fz1
  have HCf := HC5
  clear HC5
  obtain ⟨wr0, hwr0⟩ : ∃ X, X = w4 := ⟨_, rfl⟩
  subst hwr0
  have c0 : (0 : Int) ≤ (lo : Int) := by omega
  have c1 : (lo : Int) < 128 := by omega
  have c2 : (0 : Int) ≤ (hi' : Int) := by omega
  have c3 : (hi' : Int) < 128 := by omega
  go_wp2_with fail
  obtain ⟨wo, hwo⟩ : ∃ wo : World, wo = wr0 := ⟨_, rfl⟩
  go_loopg [22] (hi' + 1 - lo) (fun g s22 wx => ∃ q : Nat, q + g = hi' + 1 ∧ lo ≤ q ∧ s22 = .int .i64 q ∧ CL rb zb ib fb s (J + 1 + 1) fold dot (fun x => h x || (decide (lo ≤ x) && decide (x < q))) w0 wx)
  case atStart => exact ⟨lo, by omega, Nat.le_refl _, rfl, HCf.out.eqv (fun x _ => by
    by_cases e : lo ≤ x
    · have : ¬ x < lo := by omega
      simp [this]
    · simp [e])⟩
  case round =>
    obtain ⟨q, hqg, hlq, rfl, hCx⟩ := hrel
    have HCc := Lib.hid hCx
    clear hCx
    cases gk with
    | zero =>
      obtain rfl : q = hi' + 1 := by omega
      have t1 : decide (((hi' + 1 : Nat) : Int) ≤ (hi' : Int)) = false := by simp; omega
      have t2 : decide ((hi' : Int) + 1 ≤ (hi' : Int)) = false := by simp; omega
      have t3 : decide (hi' + 1 ≤ hi') = false := by simp
      go_wp2_with fail
      refine HN.out _ _ ⟨rfl, rfl, rfl, rfl, rfl, rfl, rfl⟩ (HCc.out.eqv (fun y hy => ?_))
      have e : decide (y ≤ hi') = decide (y < hi' + 1) := by rw [Bool.eq_iff_iff]; simp; omega
      rw [e]
    | succ g =>
      have hq : q ≤ hi' := by omega
      have hq1 : q < 128 := by omega
      have t1 : decide ((q : Int) ≤ (hi' : Int)) = true := by simp; omega
      have t2 : decide (q ≤ hi') = true := by simp; omega
      have t3 : decide ((q : Int) < 128) = true := by simp; omega
      have i0 : (0 : Int) ≤ (q : Int) := by omega
      have i1 : (q : Int) < 128 := by omega
      obtain ⟨old, g0⟩ : ∃ old, wr.cell? ⟨ib, q, none⟩ = some old := ⟨_, by rw [Lib.cell_of_heap HCc.out.i, inC_get _ q hq1]⟩
      have g1 : wr.frozen? ⟨ib, q, none⟩ = false := Lib.frozen_of_heap HCc.out.i q
      have PU : Hid (CL rb zb ib fb s (J + 1 + 1) fold dot (fun x => h x || (decide (lo ≤ x) && decide (x < q + 1))) w0 (wr.setCell ⟨ib, q, none⟩ (.bool true))) := Lib.hid ((HCc.out.put (b := true) hq1).eqv (fun x hx => by
        by_cases e : x = q
        · subst e; simp [hlq]
        · by_cases e2 : x < q
          · simp [e, e2, show x < q + 1 from by omega]
          · simp [e, e2, show ¬ x < q + 1 from by omega]))
      go_wp2_with fail
      go_roundg g
      case measure => omega
      case rel => exact ⟨q + 1, by omega, by omega, by go_num, PU.out⟩
theorem cl_rng_f (rb fb zb ib : Nat) (nt : Bool) (s : ByteArray) (j lo hi' : Nat) (r : List UInt8) (fold dot : Bool) (h : Nat → Bool) (w0 V : World) (Q : Exit → Act → World → Prop) (fuel : Nat) (a : Array Value)
    (hF : CF rb fb zb ib nt false a) (hC : CL rb zb ib fb s j fold dot h w0 V) (hs : s.size ≤ 274877906944) (hok : Re.chOk lo = true) (hok2 : Re.chOk hi' = true) (hle : lo ≤ hi') (hm : Rm s j (UInt8.ofNat lo :: UInt8.ofNat 45 :: UInt8.ofNat hi' :: r))
    (hN : ∀ a' w', CF rb fb zb ib nt false a' → CL rb zb ib fb s (j + 3) fold dot (fun x => h x || (decide (lo ≤ x) && decide (x ≤ hi'))) w0 w' → Code.rounds Tryz.prog clL Q fuel ⟨a', []⟩ w') :
    Code.rounds Tryz.prog clL Q (fuel + 1) ⟨a, []⟩ V := by
  simp only [Re.chOk, Bool.and_eq_true, decide_eq_true_eq, Bool.not_eq_true', Bool.or_eq_false_iff, beq_eq_false_iff_ne] at hok hok2
  obtain ⟨hlo, hne⟩ := hok
  obtain ⟨hhi, hne2⟩ := hok2
  obtain ⟨hi, hat⟩ := hm.at
  have hsz := hm.size
  simp only [List.length_cons] at hsz
  obtain ⟨hi2, hat2⟩ := hm.tail.at
  obtain ⟨hi3, hat3⟩ := hm.tail.tail.at
  have HM3 := Lib.hid hm.tail.tail
  rw [rounds_succ]
  refine CF.open (C := fun a => Code.wp Tryz.prog clL _ ⟨a, []⟩ V) hF fun x => ?_
  have HN := Lib.hid hN
  have HC := Lib.hid hC
  have HM := Lib.hid hm
  have MY := Lib.hid (more_yes rb s j _ _ hm)
  have P93 := Lib.hid (pre_no (l := []) (r := UInt8.ofNat 45 :: UInt8.ofNat hi' :: r) (of_ne (n := 93) hlo (by omega) (by omega)))
  have P91 := Lib.hid (pre_no (l := [58]) (r := UInt8.ofNat 45 :: UInt8.ofNat hi' :: r) (of_ne (n := 91) hlo (by omega) (by omega)))
  have hb7 := hC.b
  clear hN hC hF hm
  simp only [clL, clB, Tryz.f55, Option.getD_some, dl2, dbl', dlo]
  go_wp2_with fail
  refine (MY.out _ HC.out.r).mono ?_
  rintro e w1 ⟨rfl, n, rfl⟩
  have HCX := Lib.hid (HC.out.drew n)
  go_wp2_with fail
  refine (skip_f rb s ⟨#[93]⟩ j true _ _ HCX.out.r (by omega) (by decide) HM.out P93.out).mono ?_
  rintro e w1 ⟨rfl, n2, rfl⟩
  clear HCX
  have HCX := Lib.hid (HC.out.drew (n + n2))
  rw [World.drewN_drewN]
  go_wp2_with fail
  refine (skip_f rb s ⟨#[91, 58]⟩ j true _ _ HCX.out.r (by omega) (by decide) HM.out P91.out).mono ?_
  rintro e w1 ⟨rfl, n3, rfl⟩
  have HC0 := Lib.hid (HCX.out.drew n3)
  obtain ⟨W, hW⟩ : ∃ W, W = (V.drewN (n + n2)).drewN n3 := ⟨_, rfl⟩
  rw [← hW] at HC0
  rw [← hW]
  clear hW HCX HC
  have hsi : (((s[j]'hi).toNat : Nat) : Int) = (lo : Int) := by rw [hat]; simp; omega
  have l1 : decide ((j : Int) + 1 < (s.size : Int)) = true := by simp; omega
  have l2 : decide (j + 1 < s.size) = true := by simp; omega
  have n92 := ne_u8 (c := lo) (n := 92) (by omega)
  simp only [Int.cast_ofNat_Int] at n92
  have hw1 : IntKind.i64.wrap ((j : Int) + 1) = (j : Int) + 1 := IntWalk.i64_in _ (by omega)
  obtain ⟨r0, r1, r2, _, _, _⟩ := HC0.out.r.cells
  clear hat
  go_wp2
  go_quiet (fail)
  rename Nat => n4
  clear r0 r1 r2 l1 l2 n92 hw1 hsi
  have HC1 := Lib.hid (HC0.out.drew n4)
  clear HC0
  go_wp2_with fail
  refine (single_any rb s j true lo _ _ HC1.out.r (by omega) HM.out hlo (by omega)).mono ?_
  rintro e w2 ⟨rfl, hr2, hk2⟩
  have HC2 := Lib.hid (HC1.out.call hr2 hk2)
  clear hr2 hk2 HC1
  obtain ⟨J, hJ⟩ : ∃ J, j + 1 = J := ⟨_, rfl⟩
  have hJ3 : j + 3 = J + 1 + 1 := by omega
  rw [hJ] at HC2 HM3
  rw [hJ3] at HN
  obtain ⟨r0, r1, r2, fz1, _, _⟩ := HC2.out.r.cells
  have hj2 : J < s.size := by omega
  have hj3 : J + 1 < s.size := by omega
  have hsj : (((s[J]'hj2).toNat : Nat) : Int) = 45 := by subst hJ; rw [hat2]; rfl
  have hsk : (((s[J + 1]'hj3).toNat : Nat) : Int) = (hi' : Int) := by subst hJ; rw [hat3]; simp; omega
  have n93 := ne_u8 (c := hi') (n := 93) (by omega)
  simp only [Int.cast_ofNat_Int] at n93
  have n93b : ((hi' : Int) != 93) = true := by rw [bne, n93]; rfl
  have hw1 : IntKind.i64.wrap ((J : Int) + 1) = (J : Int) + 1 := IntWalk.i64_in _ (by omega)
  have hn1 : ((J : Int) + 1).toNat = J + 1 := by omega
  have hp1 : (0 : Int) ≤ (J : Int) + 1 := by omega
  have hp2 : (J : Int) + 1 < (s.size : Int) := by omega
  have l1 : decide ((J : Int) + 1 < (s.size : Int)) = true := by simp; omega
  have l2 : decide (J + 1 < s.size) = true := by simp; omega
  clear hat2 hat3
  go_wp2
  go_quiet (fail)
  rename Nat => n5
  clear r0 r1 r2 fz1 l1 l2 n93 n93b hw1 hsj hsk hn1 hp1 hp2
  have HC3 := Lib.hid (HC2.out.drew n5)
  clear HC2
  obtain ⟨W3, hW3⟩ : ∃ X, X = w2.drewN n5 := ⟨_, rfl⟩
  rw [← hW3] at HC3
  rw [← hW3]
  clear hW3
  obtain ⟨r0, r1, r2, fz1, _, _⟩ := HC3.out.r.cells
  have HC4 : Hid (CL rb zb ib fb s (J + 1) fold dot h w0 (W3.setCell ⟨rb, 1, none⟩ (.int .i64 ((J : Int) + 1)))) := Lib.hid (HC3.out.at (J + 1))
  have hbj : (J : Int) + 1 ≤ 274877906944 := by omega
  have hbj0 : (0 : Int) ≤ (J : Int) := by omega
  go_wp2_with fail
  refine (single_any rb s (J + 1) true hi' _ _ HC4.out.r (by omega) HM3.out hhi (by omega)).mono ?_
  rintro e w4 ⟨rfl, hr4, hk4⟩
  have HC5 := Lib.hid (HC4.out.call hr4 hk4)
  have hlt1 : decide ((hi' : Int) < (lo : Int)) = false := by simp; omega
  have hlt2 : decide (hi' < lo) = false := by simp; omega
  clear hr4 hk4 HC4 HC3 r0 r1 r2 fz1
  have HCf := HC5
  clear HC5
  obtain ⟨wr0, hwr0⟩ : ∃ X, X = w4 := ⟨_, rfl⟩
  subst hwr0
  have c0 : (0 : Int) ≤ (lo : Int) := by omega
  have c1 : (lo : Int) < 128 := by omega
  have c2 : (0 : Int) ≤ (hi' : Int) := by omega
  have c3 : (hi' : Int) < 128 := by omega
  go_wp2_with fail
  obtain ⟨wo, hwo⟩ : ∃ wo : World, wo = wr0 := ⟨_, rfl⟩
  go_loopg [22] (hi' + 1 - lo) (fun g s22 wx => ∃ q : Nat, q + g = hi' + 1 ∧ lo ≤ q ∧ s22 = .int .i64 q ∧ CL rb zb ib fb s (J + 1 + 1) fold dot (fun x => h x || (decide (lo ≤ x) && decide (x < q))) w0 wx)
  case atStart => exact ⟨lo, by omega, Nat.le_refl _, rfl, HCf.out.eqv (fun x _ => by
    by_cases e : lo ≤ x
    · have : ¬ x < lo := by omega
      simp [this]
    · simp [e])⟩
  case round =>
    obtain ⟨q, hqg, hlq, rfl, hCx⟩ := hrel
    have HCc := Lib.hid hCx
    clear hCx
    cases gk with
    | zero =>
      obtain rfl : q = hi' + 1 := by omega
      have t1 : decide (((hi' + 1 : Nat) : Int) ≤ (hi' : Int)) = false := by simp; omega
      have t2 : decide ((hi' : Int) + 1 ≤ (hi' : Int)) = false := by simp; omega
      have t3 : decide (hi' + 1 ≤ hi') = false := by simp
      go_wp2_with fail
      refine HN.out _ _ ⟨rfl, rfl, rfl, rfl, rfl, rfl, rfl⟩ (HCc.out.eqv (fun y hy => ?_))
      have e : decide (y ≤ hi') = decide (y < hi' + 1) := by rw [Bool.eq_iff_iff]; simp; omega
      rw [e]
    | succ g =>
      have hq : q ≤ hi' := by omega
      have hq1 : q < 128 := by omega
      have t1 : decide ((q : Int) ≤ (hi' : Int)) = true := by simp; omega
      have t2 : decide (q ≤ hi') = true := by simp; omega
      have t3 : decide ((q : Int) < 128) = true := by simp; omega
      have i0 : (0 : Int) ≤ (q : Int) := by omega
      have i1 : (q : Int) < 128 := by omega
      obtain ⟨old, g0⟩ : ∃ old, wr.cell? ⟨ib, q, none⟩ = some old := ⟨_, by rw [Lib.cell_of_heap HCc.out.i, inC_get _ q hq1]⟩
      have g1 : wr.frozen? ⟨ib, q, none⟩ = false := Lib.frozen_of_heap HCc.out.i q
      have PU : Hid (CL rb zb ib fb s (J + 1 + 1) fold dot (fun x => h x || (decide (lo ≤ x) && decide (x < q + 1))) w0 (wr.setCell ⟨ib, q, none⟩ (.bool true))) := Lib.hid ((HCc.out.put (b := true) hq1).eqv (fun x hx => by
        by_cases e : x = q
        · subst e; simp [hlq]
        · by_cases e2 : x < q
          · simp [e, e2, show x < q + 1 from by omega]
          · simp [e, e2, show ¬ x < q + 1 from by omega]))
      go_wp2_with fail
      go_roundg g
      case measure => omega
      case rel => exact ⟨q + 1, by omega, by omega, by go_num, PU.out⟩
end Go.Proofs.YtpfgmiocdgfniaaGreatFmt
