/- Joined by pack.py: ClG. -/
import Derived.Test.YtpfgmiocdgfniaaGreatFmtP33
set_option linter.unusedVariables false
set_option maxHeartbeats 8000000
set_option maxRecDepth 1000000
namespace Go.Proofs.YtpfgmiocdgfniaaGreatFmt
open Go.RowKit
open Re (CI)
theorem cl_ch_t (rb fb zb ib : Nat) (nt : Bool) (s : ByteArray) (j c : Nat) (d : UInt8) (r : List UInt8) (fold dot : Bool) (h : Nat → Bool) (w0 V : World) (Q : Exit → Act → World → Prop) (fuel : Nat) (a : Array Value)
    (hF : CF rb fb zb ib nt true a) (hC : CL rb zb ib fb s j fold dot h w0 V) (hs : s.size ≤ 274877906944) (hok : Re.chOk c = true) (hm : Rm s j (UInt8.ofNat c :: d :: r)) (hd : d.toNat ≠ 45)
    (hN : ∀ a' w', CF rb fb zb ib nt false a' → CL rb zb ib fb s (j + 1) fold dot (fun x => h x || x == c) w0 w' → Code.rounds Tryz.prog clL Q fuel ⟨a', []⟩ w') :
    Code.rounds Tryz.prog clL Q (fuel + 1) ⟨a, []⟩ V := by
  simp only [Re.chOk, Bool.and_eq_true, decide_eq_true_eq, Bool.not_eq_true', Bool.or_eq_false_iff, beq_eq_false_iff_ne] at hok
  obtain ⟨hc, hne⟩ := hok
  obtain ⟨hi, hat⟩ := hm.at
  have hsz := hm.size
  simp only [List.length_cons] at hsz
  obtain ⟨hi2, hat2⟩ := hm.tail.at
  rw [rounds_succ]
  refine CF.open (C := fun a => Code.wp Tryz.prog clL _ ⟨a, []⟩ V) hF fun x => ?_
  have HN := Lib.hid hN
  have HC := Lib.hid hC
  have HM := Lib.hid hm
  have MY := Lib.hid (more_yes rb s j _ _ hm)
  have P93 := Lib.hid (pre_no (l := []) (r := d :: r) (of_ne (n := 93) hc (by omega) (by omega)))
  have P91 := Lib.hid (pre_no (l := [58]) (r := d :: r) (of_ne (n := 91) hc (by omega) (by omega)))
  have hb7 := hC.b
  clear hN hC hF hm
  simp only [clL, clB, Tryz.f55, Option.getD_some, dl2, dbl', dlo]
  go_wp2_with fail
  refine (MY.out _ HC.out.r).mono ?_
  rintro e w1 ⟨rfl, n, rfl⟩
  have HCX := Lib.hid (HC.out.drew n)
  go_wp2_with fail
  refine (skip_f rb s ⟨#[91, 58]⟩ j true _ _ HCX.out.r (by omega) (by decide) HM.out P91.out).mono ?_
  rintro e w1 ⟨rfl, n3, rfl⟩
  have HC0 := Lib.hid (HCX.out.drew n3)
  obtain ⟨W, hW⟩ : ∃ W, W = (V.drewN n).drewN n3 := ⟨_, rfl⟩
  rw [← hW] at HC0
  rw [← hW]
  clear hW HCX HC
  have hsi : (((s[j]'hi).toNat : Nat) : Int) = (c : Int) := by rw [hat]; simp; omega
  have l1 : decide ((j : Int) + 1 < (s.size : Int)) = true := by simp; omega
  have l2 : decide (j + 1 < s.size) = true := by simp; omega
  have n92 := ne_u8 (c := c) (n := 92) (by omega)
  simp only [Int.cast_ofNat_Int] at n92
  have hw1 : IntKind.i64.wrap ((j : Int) + 1) = (j : Int) + 1 := IntWalk.i64_in _ (by omega)
  obtain ⟨r0, r1, r2, _, _, _⟩ := HC0.out.r.cells
  clear hat
  go_wp2
  go_quiet (fail)
  rename Nat => n4
  clear r0 r1 r2 l1 l2 n92 hw1 hsi
  have HC1 := Lib.hid (HC0.out.drew n4)
  clear HC0
  go_wp2_with fail
  refine (single_any rb s j true c _ _ HC1.out.r (by omega) HM.out hc (by omega)).mono ?_
  rintro e w2 ⟨rfl, hr2, hk2⟩
  have HC2 := Lib.hid (HC1.out.call hr2 hk2)
  clear hr2 hk2 HC1
  obtain ⟨J, hJ⟩ : ∃ J, j + 1 = J := ⟨_, rfl⟩
  rw [hJ] at HC2 HN
  obtain ⟨r0, r1, r2, _, _, _⟩ := HC2.out.r.cells
  have hj2 : J < s.size := by omega
  have hsj : (((s[J]'hj2).toNat : Nat) : Int) = (d.toNat : Int) := by subst hJ; rw [hat2]
  have n45 := ne_u8 (c := d.toNat) (n := 45) hd
  simp only [Int.cast_ofNat_Int] at n45
  have hw1 : IntKind.i64.wrap ((J : Int) + 1) = (J : Int) + 1 := IntWalk.i64_in _ (by omega)
  clear hat2
  go_wp2
  have HCf : Hid (∀ n, CL rb zb ib fb s J fold dot h w0 (w2.drewN n)) := Lib.hid fun n => HC2.out.drew n
  by_cases hlt : J + 1 < s.size
  all_goals
    first | (have l1 : decide ((J : Int) + 1 < (s.size : Int)) = true := by simp; omega) | (have l1 : decide ((J : Int) + 1 < (s.size : Int)) = false := by simp; omega)
    first | (have l2 : decide (J + 1 < s.size) = true := by simp; omega) | (have l2 : decide (J + 1 < s.size) = false := by simp; omega)
    clear hlt
    go_quiet (fail)
    rename Nat => n5
    clear r0 r1 r2 l1 l2 n45 hw1 hsj
    obtain ⟨wr0, hwr0⟩ : ∃ X, X = w2.drewN n5 := ⟨_, rfl⟩
    have HCg := Lib.hid (HCf.out n5)
    rw [← hwr0] at HCg
    rw [← hwr0]
    clear hwr0 HCf HC2
    have HCf := HCg
    clear HCg
    have c0 : (0 : Int) ≤ (c : Int) := by omega
    have c1 : (c : Int) < 128 := by omega
    have c2 : (0 : Int) ≤ (c : Int) := by omega
    have c3 : (c : Int) < 128 := by omega
    go_wp2_with fail
    obtain ⟨wo, hwo⟩ : ∃ wo : World, wo = wr0 := ⟨_, rfl⟩
    go_loopg [22] (c + 1 - c) (fun g s22 wx => ∃ q : Nat, q + g = c + 1 ∧ c ≤ q ∧ s22 = .int .i64 q ∧ CL rb zb ib fb s J fold dot (fun x => h x || (decide (c ≤ x) && decide (x < q))) w0 wx)
    case atStart => exact ⟨c, by omega, Nat.le_refl _, rfl, HCf.out.eqv (fun x _ => by
      by_cases e : c ≤ x
      · have : ¬ x < c := by omega
        simp [this]
      · simp [e])⟩
    case round =>
      obtain ⟨q, hqg, hlq, rfl, hCx⟩ := hrel
      have HCc := Lib.hid hCx
      clear hCx
      cases gk with
      | zero =>
        obtain rfl : q = c + 1 := by omega
        have t1 : decide (((c + 1 : Nat) : Int) ≤ (c : Int)) = false := by simp; omega
        have t2 : decide ((c : Int) + 1 ≤ (c : Int)) = false := by simp; omega
        have t3 : decide (c + 1 ≤ c) = false := by simp
        go_wp2_with fail
        refine HN.out _ _ ⟨rfl, rfl, rfl, rfl, rfl, rfl, rfl⟩ (HCc.out.eqv (fun y hy => ?_))
        by_cases e : y = c
        · subst e; simp
        · have e1 : (y == c) = false := by simpa using e
          have e2 : (decide (c ≤ y) && decide (y < c + 1)) = false := by simp; omega
          rw [e1, e2]
      | succ g =>
        have hq : q ≤ c := by omega
        have hq1 : q < 128 := by omega
        have t1 : decide ((q : Int) ≤ (c : Int)) = true := by simp; omega
        have t2 : decide (q ≤ c) = true := by simp; omega
        have t3 : decide ((q : Int) < 128) = true := by simp; omega
        have i0 : (0 : Int) ≤ (q : Int) := by omega
        have i1 : (q : Int) < 128 := by omega
        obtain ⟨old, g0⟩ : ∃ old, wr.cell? ⟨ib, q, none⟩ = some old := ⟨_, by rw [Lib.cell_of_heap HCc.out.i, inC_get _ q hq1]⟩
        have g1 : wr.frozen? ⟨ib, q, none⟩ = false := Lib.frozen_of_heap HCc.out.i q
        have PU : Hid (CL rb zb ib fb s J fold dot (fun x => h x || (decide (c ≤ x) && decide (x < q + 1))) w0 (wr.setCell ⟨ib, q, none⟩ (.bool true))) := Lib.hid ((HCc.out.put (b := true) hq1).eqv (fun x hx => by
          by_cases e : x = q
          · subst e; simp [hlq]
          · by_cases e2 : x < q
            · simp [e, e2, show x < q + 1 from by omega]
            · simp [e, e2, show ¬ x < q + 1 from by omega]))
        go_wp2_with fail
        go_roundg g
        case measure => omega
        case rel => exact ⟨q + 1, by omega, by omega, by go_num, PU.out⟩
theorem cl_ch_f (rb fb zb ib : Nat) (nt : Bool) (s : ByteArray) (j c : Nat) (d : UInt8) (r : List UInt8) (fold dot : Bool) (h : Nat → Bool) (w0 V : World) (Q : Exit → Act → World → Prop) (fuel : Nat) (a : Array Value)
    (hF : CF rb fb zb ib nt false a) (hC : CL rb zb ib fb s j fold dot h w0 V) (hs : s.size ≤ 274877906944) (hok : Re.chOk c = true) (hm : Rm s j (UInt8.ofNat c :: d :: r)) (hd : d.toNat ≠ 45)
    (hN : ∀ a' w', CF rb fb zb ib nt false a' → CL rb zb ib fb s (j + 1) fold dot (fun x => h x || x == c) w0 w' → Code.rounds Tryz.prog clL Q fuel ⟨a', []⟩ w') :
    Code.rounds Tryz.prog clL Q (fuel + 1) ⟨a, []⟩ V := by
  simp only [Re.chOk, Bool.and_eq_true, decide_eq_true_eq, Bool.not_eq_true', Bool.or_eq_false_iff, beq_eq_false_iff_ne] at hok
  obtain ⟨hc, hne⟩ := hok
  obtain ⟨hi, hat⟩ := hm.at
  have hsz := hm.size
  simp only [List.length_cons] at hsz
  obtain ⟨hi2, hat2⟩ := hm.tail.at
  rw [rounds_succ]
  refine CF.open (C := fun a => Code.wp Tryz.prog clL _ ⟨a, []⟩ V) hF fun x => ?_
  have HN := Lib.hid hN
  have HC := Lib.hid hC
  have HM := Lib.hid hm
  have MY := Lib.hid (more_yes rb s j _ _ hm)
  have P93 := Lib.hid (pre_no (l := []) (r := d :: r) (of_ne (n := 93) hc (by omega) (by omega)))
  have P91 := Lib.hid (pre_no (l := [58]) (r := d :: r) (of_ne (n := 91) hc (by omega) (by omega)))
  have hb7 := hC.b
  clear hN hC hF hm
  simp only [clL, clB, Tryz.f55, Option.getD_some, dl2, dbl', dlo]
  go_wp2_with fail
  refine (MY.out _ HC.out.r).mono ?_
  rintro e w1 ⟨rfl, n, rfl⟩
  have HCX := Lib.hid (HC.out.drew n)
  go_wp2_with fail
  refine (skip_f rb s ⟨#[93]⟩ j true _ _ HCX.out.r (by omega) (by decide) HM.out P93.out).mono ?_
  rintro e w1 ⟨rfl, n2, rfl⟩
  clear HCX
  have HCX := Lib.hid (HC.out.drew (n + n2))
  rw [World.drewN_drewN]
  go_wp2_with fail
  refine (skip_f rb s ⟨#[91, 58]⟩ j true _ _ HCX.out.r (by omega) (by decide) HM.out P91.out).mono ?_
  rintro e w1 ⟨rfl, n3, rfl⟩
  have HC0 := Lib.hid (HCX.out.drew n3)
  obtain ⟨W, hW⟩ : ∃ W, W = (V.drewN (n + n2)).drewN n3 := ⟨_, rfl⟩
  rw [← hW] at HC0
  rw [← hW]
  clear hW HCX HC
  have hsi : (((s[j]'hi).toNat : Nat) : Int) = (c : Int) := by rw [hat]; simp; omega
  have l1 : decide ((j : Int) + 1 < (s.size : Int)) = true := by simp; omega
  have l2 : decide (j + 1 < s.size) = true := by simp; omega
  have n92 := ne_u8 (c := c) (n := 92) (by omega)
  simp only [Int.cast_ofNat_Int] at n92
  have hw1 : IntKind.i64.wrap ((j : Int) + 1) = (j : Int) + 1 := IntWalk.i64_in _ (by omega)
  obtain ⟨r0, r1, r2, _, _, _⟩ := HC0.out.r.cells
  clear hat
  go_wp2
  go_quiet (fail)
  rename Nat => n4
  clear r0 r1 r2 l1 l2 n92 hw1 hsi
  have HC1 := Lib.hid (HC0.out.drew n4)
  clear HC0
  go_wp2_with fail
  refine (single_any rb s j true c _ _ HC1.out.r (by omega) HM.out hc (by omega)).mono ?_
  rintro e w2 ⟨rfl, hr2, hk2⟩
  have HC2 := Lib.hid (HC1.out.call hr2 hk2)
  clear hr2 hk2 HC1
  obtain ⟨J, hJ⟩ : ∃ J, j + 1 = J := ⟨_, rfl⟩
  rw [hJ] at HC2 HN
  obtain ⟨r0, r1, r2, _, _, _⟩ := HC2.out.r.cells
  have hj2 : J < s.size := by omega
  have hsj : (((s[J]'hj2).toNat : Nat) : Int) = (d.toNat : Int) := by subst hJ; rw [hat2]
  have n45 := ne_u8 (c := d.toNat) (n := 45) hd
  simp only [Int.cast_ofNat_Int] at n45
  have hw1 : IntKind.i64.wrap ((J : Int) + 1) = (J : Int) + 1 := IntWalk.i64_in _ (by omega)
  clear hat2
  go_wp2
  have HCf : Hid (∀ n, CL rb zb ib fb s J fold dot h w0 (w2.drewN n)) := Lib.hid fun n => HC2.out.drew n
  by_cases hlt : J + 1 < s.size
  all_goals
    first | (have l1 : decide ((J : Int) + 1 < (s.size : Int)) = true := by simp; omega) | (have l1 : decide ((J : Int) + 1 < (s.size : Int)) = false := by simp; omega)
    first | (have l2 : decide (J + 1 < s.size) = true := by simp; omega) | (have l2 : decide (J + 1 < s.size) = false := by simp; omega)
    clear hlt
    go_quiet (fail)
    rename Nat => n5
    clear r0 r1 r2 l1 l2 n45 hw1 hsj
    obtain ⟨wr0, hwr0⟩ : ∃ X, X = w2.drewN n5 := ⟨_, rfl⟩
    have HCg := Lib.hid (HCf.out n5)
    rw [← hwr0] at HCg
    rw [← hwr0]
    clear hwr0 HCf HC2
    have HCf := HCg
    clear HCg
    have c0 : (0 : Int) ≤ (c : Int) := by omega
    have c1 : (c : Int) < 128 := by omega
    have c2 : (0 : Int) ≤ (c : Int) := by omega
    have c3 : (c : Int) < 128 := by omega
    go_wp2_with fail
    obtain ⟨wo, hwo⟩ : ∃ wo : World, wo = wr0 := ⟨_, rfl⟩
    go_loopg [22] (c + 1 - c) (fun g s22 wx => ∃ q : Nat, q + g = c + 1 ∧ c ≤ q ∧ s22 = .int .i64 q ∧ CL rb zb ib fb s J fold dot (fun x => h x || (decide (c ≤ x) && decide (x < q))) w0 wx)
    case atStart => exact ⟨c, by omega, Nat.le_refl _, rfl, HCf.out.eqv (fun x _ => by
      by_cases e : c ≤ x
      · have : ¬ x < c := by omega
        simp [this]
      · simp [e])⟩
    case round =>
      obtain ⟨q, hqg, hlq, rfl, hCx⟩ := hrel
      have HCc := Lib.hid hCx
      clear hCx
      cases gk with
      | zero =>
        obtain rfl : q = c + 1 := by omega
        have t1 : decide (((c + 1 : Nat) : Int) ≤ (c : Int)) = false := by simp; omega
        have t2 : decide ((c : Int) + 1 ≤ (c : Int)) = false := by simp; omega
        have t3 : decide (c + 1 ≤ c) = false := by simp
        go_wp2_with fail
        refine HN.out _ _ ⟨rfl, rfl, rfl, rfl, rfl, rfl, rfl⟩ (HCc.out.eqv (fun y hy => ?_))
        by_cases e : y = c
        · subst e; simp
        · have e1 : (y == c) = false := by simpa using e
          have e2 : (decide (c ≤ y) && decide (y < c + 1)) = false := by simp; omega
          rw [e1, e2]
      | succ g =>
        have hq : q ≤ c := by omega
        have hq1 : q < 128 := by omega
        have t1 : decide ((q : Int) ≤ (c : Int)) = true := by simp; omega
        have t2 : decide (q ≤ c) = true := by simp; omega
        have t3 : decide ((q : Int) < 128) = true := by simp; omega
        have i0 : (0 : Int) ≤ (q : Int) := by omega
        have i1 : (q : Int) < 128 := by omega
        obtain ⟨old, g0⟩ : ∃ old, wr.cell? ⟨ib, q, none⟩ = some old := ⟨_, by rw [Lib.cell_of_heap HCc.out.i, inC_get _ q hq1]⟩
        have g1 : wr.frozen? ⟨ib, q, none⟩ = false := Lib.frozen_of_heap HCc.out.i q
        have PU : Hid (CL rb zb ib fb s J fold dot (fun x => h x || (decide (c ≤ x) && decide (x < q + 1))) w0 (wr.setCell ⟨ib, q, none⟩ (.bool true))) := Lib.hid ((HCc.out.put (b := true) hq1).eqv (fun x hx => by
          by_cases e : x = q
          · subst e; simp [hlq]
          · by_cases e2 : x < q
            · simp [e, e2, show x < q + 1 from by omega]
            · simp [e, e2, show ¬ x < q + 1 from by omega]))
        go_wp2_with fail
        go_roundg g
        case measure => omega
        case rel => exact ⟨q + 1, by omega, by omega, by go_num, PU.out⟩
end Go.Proofs.YtpfgmiocdgfniaaGreatFmt
