/- Joined by pack.py: ClF. -/
import Derived.Test.YtpfgmiocdgfniaaGreatFmtP33
set_option linter.unusedVariables false
set_option maxHeartbeats 8000000
set_option maxRecDepth 1000000
namespace Go.Proofs.YtpfgmiocdgfniaaGreatFmt
open Go.RowKit
open Re (CI)
theorem nm_pre (k : Nat) (h1 : 1 ≤ k) (h2 : k ≤ 12) (r : List UInt8) : ∀ q, 1 ≤ q → q ≤ 12 → q ≠ k → List.isPrefixOf (bs (Re.nmL q) ++ [58, 93]) (bs (Re.nmL k ++ [58, 93]) ++ r) = false := by
  have key : ∀ k, 1 ≤ k → k ≤ 12 → ∀ q, 1 ≤ q → q ≤ 12 → q ≠ k → List.isPrefixOf (bs (Re.nmL q) ++ [58, 93]) (bs (Re.nmL k ++ [58, 93]) ++ r) = false := by
    intro k a b q c d e
    have hk : k = 1 ∨ k = 2 ∨ k = 3 ∨ k = 4 ∨ k = 5 ∨ k = 6 ∨ k = 7 ∨ k = 8 ∨ k = 9 ∨ k = 10 ∨ k = 11 ∨ k = 12 := by omega
    have hq : q = 1 ∨ q = 2 ∨ q = 3 ∨ q = 4 ∨ q = 5 ∨ q = 6 ∨ q = 7 ∨ q = 8 ∨ q = 9 ∨ q = 10 ∨ q = 11 ∨ q = 12 := by omega
    rcases hk with rfl | rfl | rfl | rfl | rfl | rfl | rfl | rfl | rfl | rfl | rfl | rfl <;> rcases hq with rfl | rfl | rfl | rfl | rfl | rfl | rfl | rfl | rfl | rfl | rfl | rfl <;> first | exact absurd rfl e | rfl
  exact key k h1 h2
theorem nm_le (k : Nat) : (Re.nmL k).length ≤ 6 := by
  unfold Re.nmL
  split <;> simp
theorem nm_head (k : Nat) (h1 : 1 ≤ k) (h2 : k ≤ 12) (r : List UInt8) : List.isPrefixOf [94] (bs (Re.nmL k ++ [58, 93]) ++ r) = false := by
  have hk : k = 1 ∨ k = 2 ∨ k = 3 ∨ k = 4 ∨ k = 5 ∨ k = 6 ∨ k = 7 ∨ k = 8 ∨ k = 9 ∨ k = 10 ∨ k = 11 ∨ k = 12 := by omega
  rcases hk with rfl | rfl | rfl | rfl | rfl | rfl | rfl | rfl | rfl | rfl | rfl | rfl <;> rfl
theorem name_app (q : Nat) : (ByteArray.mk (bs (Re.nmL q)).toArray ++ ByteArray.mk #[58, 93]).data.toList = bs (Re.nmL q) ++ [58, 93] := by
  simp [ByteArray.data_append]
theorem name_sz (q : Nat) : (ByteArray.mk (bs (Re.nmL q)).toArray ++ ByteArray.mk #[58, 93]).size = (Re.nmL q).length + 2 := by
  rw [← Pat.size_toList, name_app]; simp [bs]
def NT (cb co : Nat) (w : World) : Prop := ∀ q, q < 13 → w.cell? ⟨cb, co + q, none⟩ = some (.string ⟨(bs (Re.nmL q)).toArray⟩)
theorem NT.kept {cb co rb i : Nat} {s : ByteArray} {ok : Bool} {w w' : World} (h : NT cb co w) (hr : RS rb s i ok w) (k : Kp (· = rb) w w') : NT cb co w' :=
  fun q hq => k.cell (fun e => by subst e; exact hr.noTab.2 co _ (h 1 (by omega))) (h q hq)
theorem NT.one {cb co q : Nat} {w : World} (h : NT cb co w) (hq : q < 13) : ∃ nm : ByteArray, w.cell? ⟨cb, co + q, none⟩ = some (.string nm) ∧ (nm ++ ByteArray.mk #[58, 93]).data.toList = bs (Re.nmL q) ++ [58, 93] ∧ nm.size ≤ 6 ∧ (nm ++ ByteArray.mk #[58, 93]).size = (Re.nmL q).length + 2 := by
  refine ⟨_, h q hq, name_app q, ?_, name_sz q⟩
  show (bs (Re.nmL q)).toArray.size ≤ 6
  have := nm_le q
  simp [bs]; omega
theorem bool_or {a b : Bool} : (a || b) = true ↔ a = true ∨ b = true := by cases a <;> simp
theorem cl_nm_t (rb fb zb ib : Nat) (nt : Bool) (s : ByteArray) (j k : Nat) (r : List UInt8) (fold dot : Bool) (h : Nat → Bool) (w0 V : World) (Q : Exit → Act → World → Prop) (fuel : Nat) (a : Array Value)
    (hF : CF rb fb zb ib nt true a) (hC : CL rb zb ib fb s j fold dot h w0 V) (hs : s.size ≤ 274877906944) (hk1 : 1 ≤ k) (hk2 : k ≤ 12) (hm : Rm s j (bs (Re.prI (.nm k)) ++ r))
    (hN : ∀ a' w', CF rb fb zb ib nt false a' → CL rb zb ib fb s (j + (Re.prI (.nm k)).length) fold dot (fun c => h c || Re.clsB k c) w0 w' → Code.rounds Tryz.prog clL Q fuel ⟨a', []⟩ w') :
    Code.rounds Tryz.prog clL Q (fuel + 1) ⟨a, []⟩ V := by
  have hm1 : Rm s j (UInt8.ofNat 91 :: UInt8.ofNat 58 :: (bs (Re.nmL k ++ [58, 93]) ++ r)) := hm
  have hm2 : Rm s (j + 2) (bs (Re.nmL k ++ [58, 93]) ++ r) := hm1.tail.tail
  have hj : j + (Re.prI (.nm k)).length = j + 2 + ((Re.nmL k).length + 2) := by simp [Re.prI]; omega
  rw [hj] at hN
  have hsz := hm1.size
  simp only [List.length_cons] at hsz
  rw [rounds_succ]
  refine CF.open (C := fun a => Code.wp Tryz.prog clL _ ⟨a, []⟩ V) hF fun x => ?_
  have HN := Lib.hid hN
  have HC := Lib.hid hC
  have HM := Lib.hid hm1
  have HM2 := Lib.hid hm2
  have MY := Lib.hid (more_yes rb s j _ _ hm1)
  have HP := Lib.hid (nm_pre k hk1 hk2 r)
  have HH := Lib.hid (nm_head k hk1 hk2 r)
  have hb7 := hC.b
  clear hN hC hF hm hm1 hm2 hj
  simp only [clL, clB, Tryz.f55, Option.getD_some, dl2, dbl', dlo]
  go_wp2_with fail
  refine (MY.out _ HC.out.r).mono ?_
  rintro e w1 ⟨rfl, n, rfl⟩
  have HCX := Lib.hid (HC.out.drew n)
  go_wp2_with fail
  refine (skip_t rb s ⟨#[91, 58]⟩ j true _ _ HCX.out.r (by omega) HM.out).mono ?_
  rintro e w1 ⟨rfl, hr1, hk1'⟩
  have HC1 : Hid (CL rb zb ib fb s (j + 2) fold dot h w0 w1) := Lib.hid (HCX.out.call hr1 hk1')
  clear hr1 hk1' HCX HC
  go_wp2_with fail
  refine (skip_f rb s ⟨#[94]⟩ (j + 2) true _ _ HC1.out.r (by omega) (by decide) HM2.out HH.out).mono ?_
  rintro e w2 ⟨rfl, n3, rfl⟩
  have HC2 := Lib.hid (HC1.out.drew n3)
  obtain ⟨cb, co, cc, g1, g2⟩ := HC2.out.ct.cn
  have HT : Hid (NT cb co (w1.drewN n3)) := Lib.hid g2
  obtain ⟨W, hW⟩ : ∃ W, w1.drewN n3 = W := ⟨_, rfl⟩
  rw [hW] at HC2 HT g1
  rw [hW]
  clear HC1 g2 hW
  go_wp2_with fail
  go_loopg [9, 49] 13 (fun g s9 s49 wx => ∃ q : Nat, q + g = 13 ∧ s49 = .int .i64 q ∧ s9 = .int .i64 ((if k < q then k else 0 : Nat) : Int) ∧ CL rb zb ib fb s (if k < q then j + 2 + ((Re.nmL k).length + 2) else j + 2) fold dot h w0 wx ∧ NT cb co wx)
  case atStart => exact ⟨0, by omega, rfl, by rw [if_neg (by omega)]; rfl, by rw [if_neg (by omega)]; exact HC2.out, HT.out⟩
  case round =>
    obtain ⟨q, hqg, rfl, h9, hCx, hTx⟩ := hrel
    clear g1
    have HCq := Lib.hid hCx
    have HTq := Lib.hid hTx
    clear hCx hTx
    cases gk with
    | zero =>
      obtain rfl : q = 13 := by omega
      rw [if_pos (by omega)] at h9
      subst h9
      have HCk : Hid (CL rb zb ib fb s (j + 2 + ((Re.nmL k).length + 2)) fold dot h w0 wr) := Lib.hid (by have := HCq.out; rwa [if_pos (by omega)] at this)
      clear HCq HTq HT HC2
      have k0 : ((k : Int) == 0) = false := by simp; omega
      generalize j + 2 + ((Re.nmL k).length + 2) = J at *
      go_wp2_with fail
      obtain ⟨wo, rfl⟩ : ∃ wo : World, wo = wr := ⟨_, rfl⟩
      go_loopg [14] 128 (fun g s14 wx => ∃ c : Nat, c + g = 128 ∧ s14 = .int .u8 c ∧ CL rb zb ib fb s J fold dot (fun x => h x || (decide (x < c) && Re.clsB k x)) w0 wx)
      case atStart => exact ⟨0, by omega, rfl, HCk.out.eqv (fun c _ => by simp)⟩
      case round =>
        obtain ⟨c, hcg, rfl, hCx⟩ := hrel
        have HCc := Lib.hid hCx
        clear hCx
        cases gk with
        | zero =>
          obtain rfl : c = 128 := by omega
          go_wp2_with fail
          refine HN.out _ _ ⟨rfl, rfl, rfl, rfl, rfl, rfl, rfl⟩ (HCc.out.eqv (fun c hc => by simp [hc]))
        | succ g =>
          have hc : c < 128 := by omega
          have g0 : wr.cell? ⟨ib, c, none⟩ = some (.bool (h c)) := by rw [Lib.cell_of_heap HCc.out.i, inC_get _ c hc]; simp
          have g1 : wr.frozen? ⟨ib, c, none⟩ = false := Lib.frozen_of_heap HCc.out.i c
          have i0 : (0 : Int) ≤ (c : Int) := by omega
          have i1 : (c : Int) < 128 := by omega
          have HO := Lib.hid (classOf_any k c wr HCc.out.ct.rg (by omega) (by omega))
          have PU : Hid (∀ b, b = (h c || Re.clsB k c) → CL rb zb ib fb s J fold dot (fun x => h x || (decide (x < c + 1) && Re.clsB k x)) w0 (wr.setCell ⟨ib, c, none⟩ (.bool b))) := Lib.hid fun b hb => (HCc.out.put (b := b) hc).eqv (fun x hx => by
            subst hb
            by_cases e : x = c
            · subst e; simp
            · by_cases e2 : x < c
              · simp [e, e2, show x < c + 1 from by omega]
              · simp [e, e2, show ¬ x < c + 1 from by omega])
          cases hh : h c with
          | true =>
            rw [hh] at g0
            have HH2 := Lib.hid hh
            clear hh
            go_wp2_with fail
            go_roundg g
            case measure => omega
            case rel => exact ⟨c + 1, by omega, by go_num, PU.out true (by rw [HH2.out]; rfl)⟩
          | false =>
            rw [hh] at g0
            have HH2 := Lib.hid hh
            clear hh
            go_wp2_with fail
            refine HO.out.mono ?_
            rintro e w9 ⟨rfl, rfl⟩
            cases hb : Re.clsB k c
            all_goals
              have HB := Lib.hid hb
              clear hb
              go_wp2_with fail
              go_roundg g
              case measure => omega
              case rel => exact ⟨c + 1, by omega, by go_num, PU.out _ (by rw [HH2.out, HB.out]; rfl)⟩
    | succ g =>
      have hq : q < 13 := by omega
      obtain ⟨nm, n0, n1, n2, n3⟩ := HTq.out.one hq
      have HN1 := Lib.hid n1
      have hsz2 : nm.size + 2 ≤ 9223372036854775807 := by omega
      have i0 : (0 : Int) ≤ (q : Int) := by omega
      have i1 : (q : Int) < 13 := by omega
      have hl100 : (nm ++ ByteArray.mk #[58, 93]).size ≤ 100 := by have := nm_le q; omega
      clear n1
      by_cases q0 : q = 0
      · have Q0 := Lib.hid q0
        have qz1 : decide ((0 : Int) < (q : Int)) = false := by simp; omega
        have qz2 : decide (0 < q) = false := by simp; omega
        clear q0
        rw [if_neg (by have := Q0.out; omega)] at h9
        subst h9
        have HR0 : Hid (CL rb zb ib fb s (j + 2) fold dot h w0 wr) := Lib.hid (by have q0 := Q0.out; have := HCq.out; rwa [if_neg (by omega)] at this)
        clear n3
        go_wp2_with fail
        go_roundg g
        case measure => omega
        case rel => exact ⟨q + 1, by omega, by go_num, by have := Q0.out; rw [if_neg (by omega)], by have := Q0.out; rw [if_neg (by omega)]; exact HR0.out, HTq.out⟩
      · have qp : (0 : Int) < (q : Int) := by omega
        rcases Nat.lt_trichotomy q k with hlt | heq | hgt
        · rw [if_neg (by omega)] at h9
          subst h9
          have HR0 : Hid (CL rb zb ib fb s (j + 2) fold dot h w0 wr) := Lib.hid (by have := HCq.out; rwa [if_neg (by omega)] at this)
          have HPq : Hid (List.isPrefixOf (nm ++ ByteArray.mk #[58, 93]).data.toList (bs (Re.nmL k ++ [58, 93]) ++ r) = false) := Lib.hid (by rw [HN1.out]; exact HP.out q (by omega) (by omega) (by omega))
          clear n3
          go_wp2_with fail
          refine (skip_f rb s _ (j + 2) true _ _ HR0.out.r (by omega) hl100 HM2.out HPq.out).mono ?_
          rintro e w9 ⟨rfl, n9, rfl⟩
          have HR1 := Lib.hid (HR0.out.drew n9)
          have HT1 := Lib.hid (HTq.out.kept HR0.out.r (Kp.drewN n9 (Kp.refl _ wr)))
          go_wp2_with fail
          go_roundg g
          case measure => omega
          case rel => exact ⟨q + 1, by omega, by go_num, by rw [if_neg (by omega)]; rfl, by rw [if_neg (by omega)]; exact HR1.out, HT1.out⟩
        · rw [if_neg (by omega)] at h9
          subst h9
          have HR0 : Hid (CL rb zb ib fb s (j + 2) fold dot h w0 wr) := Lib.hid (by have := HCq.out; rwa [if_neg (by omega)] at this)
          have HMq : Hid (Rm s (j + 2) ((nm ++ ByteArray.mk #[58, 93]).data.toList ++ r)) := Lib.hid (by rw [HN1.out, heq]; have := HM2.out; rwa [bs_app] at this)
          have HEQ := Lib.hid heq
          clear heq
          have HSZ := Lib.hid n3
          clear n3
          go_wp2_with fail
          refine (skip_t rb s _ (j + 2) true _ _ HR0.out.r (by omega) HMq.out).mono ?_
          rintro e w9 ⟨rfl, hr9, hk9⟩
          have HR1 := Lib.hid (HR0.out.call hr9 hk9)
          have HT1 := Lib.hid (HTq.out.kept HR0.out.r hk9)
          clear hr9 hk9
          go_wp2_with fail
          go_roundg g
          case measure => omega
          case rel => exact ⟨q + 1, by omega, by go_num, by have := HEQ.out; rw [if_pos (by omega), HEQ.out], by have := HEQ.out; rw [if_pos (by omega), ← HEQ.out, ← HSZ.out]; exact HR1.out, HT1.out⟩
        · rw [if_pos (by omega)] at h9
          subst h9
          have HR0 : Hid (CL rb zb ib fb s (j + 2 + ((Re.nmL k).length + 2)) fold dot h w0 wr) := Lib.hid (by have := HCq.out; rwa [if_pos (by omega)] at this)
          have k0 : ((k : Int) == 0) = false := by simp; omega
          clear n3
          go_wp2_with fail
          go_roundg g
          case measure => omega
          case rel => exact ⟨q + 1, by omega, by go_num, by rw [if_pos (by omega)], by rw [if_pos (by omega)]; exact HR0.out, HTq.out⟩
theorem cl_nm_f (rb fb zb ib : Nat) (nt : Bool) (s : ByteArray) (j k : Nat) (r : List UInt8) (fold dot : Bool) (h : Nat → Bool) (w0 V : World) (Q : Exit → Act → World → Prop) (fuel : Nat) (a : Array Value)
    (hF : CF rb fb zb ib nt false a) (hC : CL rb zb ib fb s j fold dot h w0 V) (hs : s.size ≤ 274877906944) (hk1 : 1 ≤ k) (hk2 : k ≤ 12) (hm : Rm s j (bs (Re.prI (.nm k)) ++ r))
    (hN : ∀ a' w', CF rb fb zb ib nt false a' → CL rb zb ib fb s (j + (Re.prI (.nm k)).length) fold dot (fun c => h c || Re.clsB k c) w0 w' → Code.rounds Tryz.prog clL Q fuel ⟨a', []⟩ w') :
    Code.rounds Tryz.prog clL Q (fuel + 1) ⟨a, []⟩ V := by
  have hm1 : Rm s j (UInt8.ofNat 91 :: UInt8.ofNat 58 :: (bs (Re.nmL k ++ [58, 93]) ++ r)) := hm
  have hm2 : Rm s (j + 2) (bs (Re.nmL k ++ [58, 93]) ++ r) := hm1.tail.tail
  have hj : j + (Re.prI (.nm k)).length = j + 2 + ((Re.nmL k).length + 2) := by simp [Re.prI]; omega
  rw [hj] at hN
  have hsz := hm1.size
  simp only [List.length_cons] at hsz
  rw [rounds_succ]
  refine CF.open (C := fun a => Code.wp Tryz.prog clL _ ⟨a, []⟩ V) hF fun x => ?_
  have HN := Lib.hid hN
  have HC := Lib.hid hC
  have HM := Lib.hid hm1
  have HM2 := Lib.hid hm2
  have MY := Lib.hid (more_yes rb s j _ _ hm1)
  have HP := Lib.hid (nm_pre k hk1 hk2 r)
  have HH := Lib.hid (nm_head k hk1 hk2 r)
  have hb7 := hC.b
  clear hN hC hF hm hm1 hm2 hj
  simp only [clL, clB, Tryz.f55, Option.getD_some, dl2, dbl', dlo]
  go_wp2_with fail
  refine (MY.out _ HC.out.r).mono ?_
  rintro e w1 ⟨rfl, n, rfl⟩
  have HCX := Lib.hid (HC.out.drew n)
  go_wp2_with fail
  refine (skip_f rb s ⟨#[93]⟩ j true _ _ HCX.out.r (by omega) (by decide) HM.out (by rfl)).mono ?_
  rintro e w1 ⟨rfl, n2, rfl⟩
  clear HCX
  have HCX := Lib.hid (HC.out.drew (n + n2))
  rw [World.drewN_drewN]
  go_wp2_with fail
  refine (skip_t rb s ⟨#[91, 58]⟩ j true _ _ HCX.out.r (by omega) HM.out).mono ?_
  rintro e w1 ⟨rfl, hr1, hk1'⟩
  have HC1 : Hid (CL rb zb ib fb s (j + 2) fold dot h w0 w1) := Lib.hid (HCX.out.call hr1 hk1')
  clear hr1 hk1' HCX HC
  go_wp2_with fail
  refine (skip_f rb s ⟨#[94]⟩ (j + 2) true _ _ HC1.out.r (by omega) (by decide) HM2.out HH.out).mono ?_
  rintro e w2 ⟨rfl, n3, rfl⟩
  have HC2 := Lib.hid (HC1.out.drew n3)
  obtain ⟨cb, co, cc, g1, g2⟩ := HC2.out.ct.cn
  have HT : Hid (NT cb co (w1.drewN n3)) := Lib.hid g2
  obtain ⟨W, hW⟩ : ∃ W, w1.drewN n3 = W := ⟨_, rfl⟩
  rw [hW] at HC2 HT g1
  rw [hW]
  clear HC1 g2 hW
  go_wp2_with fail
  go_loopg [9, 49] 13 (fun g s9 s49 wx => ∃ q : Nat, q + g = 13 ∧ s49 = .int .i64 q ∧ s9 = .int .i64 ((if k < q then k else 0 : Nat) : Int) ∧ CL rb zb ib fb s (if k < q then j + 2 + ((Re.nmL k).length + 2) else j + 2) fold dot h w0 wx ∧ NT cb co wx)
  case atStart => exact ⟨0, by omega, rfl, by rw [if_neg (by omega)]; rfl, by rw [if_neg (by omega)]; exact HC2.out, HT.out⟩
  case round =>
    obtain ⟨q, hqg, rfl, h9, hCx, hTx⟩ := hrel
    clear g1
    have HCq := Lib.hid hCx
    have HTq := Lib.hid hTx
    clear hCx hTx
    cases gk with
    | zero =>
      obtain rfl : q = 13 := by omega
      rw [if_pos (by omega)] at h9
      subst h9
      have HCk : Hid (CL rb zb ib fb s (j + 2 + ((Re.nmL k).length + 2)) fold dot h w0 wr) := Lib.hid (by have := HCq.out; rwa [if_pos (by omega)] at this)
      clear HCq HTq HT HC2
      have k0 : ((k : Int) == 0) = false := by simp; omega
      generalize j + 2 + ((Re.nmL k).length + 2) = J at *
      go_wp2_with fail
      obtain ⟨wo, rfl⟩ : ∃ wo : World, wo = wr := ⟨_, rfl⟩
      go_loopg [14] 128 (fun g s14 wx => ∃ c : Nat, c + g = 128 ∧ s14 = .int .u8 c ∧ CL rb zb ib fb s J fold dot (fun x => h x || (decide (x < c) && Re.clsB k x)) w0 wx)
      case atStart => exact ⟨0, by omega, rfl, HCk.out.eqv (fun c _ => by simp)⟩
      case round =>
        obtain ⟨c, hcg, rfl, hCx⟩ := hrel
        have HCc := Lib.hid hCx
        clear hCx
        cases gk with
        | zero =>
          obtain rfl : c = 128 := by omega
          go_wp2_with fail
          refine HN.out _ _ ⟨rfl, rfl, rfl, rfl, rfl, rfl, rfl⟩ (HCc.out.eqv (fun c hc => by simp [hc]))
        | succ g =>
          have hc : c < 128 := by omega
          have g0 : wr.cell? ⟨ib, c, none⟩ = some (.bool (h c)) := by rw [Lib.cell_of_heap HCc.out.i, inC_get _ c hc]; simp
          have g1 : wr.frozen? ⟨ib, c, none⟩ = false := Lib.frozen_of_heap HCc.out.i c
          have i0 : (0 : Int) ≤ (c : Int) := by omega
          have i1 : (c : Int) < 128 := by omega
          have HO := Lib.hid (classOf_any k c wr HCc.out.ct.rg (by omega) (by omega))
          have PU : Hid (∀ b, b = (h c || Re.clsB k c) → CL rb zb ib fb s J fold dot (fun x => h x || (decide (x < c + 1) && Re.clsB k x)) w0 (wr.setCell ⟨ib, c, none⟩ (.bool b))) := Lib.hid fun b hb => (HCc.out.put (b := b) hc).eqv (fun x hx => by
            subst hb
            by_cases e : x = c
            · subst e; simp
            · by_cases e2 : x < c
              · simp [e, e2, show x < c + 1 from by omega]
              · simp [e, e2, show ¬ x < c + 1 from by omega])
          cases hh : h c with
          | true =>
            rw [hh] at g0
            have HH2 := Lib.hid hh
            clear hh
            go_wp2_with fail
            go_roundg g
            case measure => omega
            case rel => exact ⟨c + 1, by omega, by go_num, PU.out true (by rw [HH2.out]; rfl)⟩
          | false =>
            rw [hh] at g0
            have HH2 := Lib.hid hh
            clear hh
            go_wp2_with fail
            refine HO.out.mono ?_
            rintro e w9 ⟨rfl, rfl⟩
            cases hb : Re.clsB k c
            all_goals
              have HB := Lib.hid hb
              clear hb
              go_wp2_with fail
              go_roundg g
              case measure => omega
              case rel => exact ⟨c + 1, by omega, by go_num, PU.out _ (by rw [HH2.out, HB.out]; rfl)⟩
    | succ g =>
      have hq : q < 13 := by omega
      obtain ⟨nm, n0, n1, n2, n3⟩ := HTq.out.one hq
      have HN1 := Lib.hid n1
      have hsz2 : nm.size + 2 ≤ 9223372036854775807 := by omega
      have i0 : (0 : Int) ≤ (q : Int) := by omega
      have i1 : (q : Int) < 13 := by omega
      have hl100 : (nm ++ ByteArray.mk #[58, 93]).size ≤ 100 := by have := nm_le q; omega
      clear n1
      by_cases q0 : q = 0
      · have Q0 := Lib.hid q0
        have qz1 : decide ((0 : Int) < (q : Int)) = false := by simp; omega
        have qz2 : decide (0 < q) = false := by simp; omega
        clear q0
        rw [if_neg (by have := Q0.out; omega)] at h9
        subst h9
        have HR0 : Hid (CL rb zb ib fb s (j + 2) fold dot h w0 wr) := Lib.hid (by have q0 := Q0.out; have := HCq.out; rwa [if_neg (by omega)] at this)
        clear n3
        go_wp2_with fail
        go_roundg g
        case measure => omega
        case rel => exact ⟨q + 1, by omega, by go_num, by have := Q0.out; rw [if_neg (by omega)], by have := Q0.out; rw [if_neg (by omega)]; exact HR0.out, HTq.out⟩
      · have qp : (0 : Int) < (q : Int) := by omega
        rcases Nat.lt_trichotomy q k with hlt | heq | hgt
        · rw [if_neg (by omega)] at h9
          subst h9
          have HR0 : Hid (CL rb zb ib fb s (j + 2) fold dot h w0 wr) := Lib.hid (by have := HCq.out; rwa [if_neg (by omega)] at this)
          have HPq : Hid (List.isPrefixOf (nm ++ ByteArray.mk #[58, 93]).data.toList (bs (Re.nmL k ++ [58, 93]) ++ r) = false) := Lib.hid (by rw [HN1.out]; exact HP.out q (by omega) (by omega) (by omega))
          clear n3
          go_wp2_with fail
          refine (skip_f rb s _ (j + 2) true _ _ HR0.out.r (by omega) hl100 HM2.out HPq.out).mono ?_
          rintro e w9 ⟨rfl, n9, rfl⟩
          have HR1 := Lib.hid (HR0.out.drew n9)
          have HT1 := Lib.hid (HTq.out.kept HR0.out.r (Kp.drewN n9 (Kp.refl _ wr)))
          go_wp2_with fail
          go_roundg g
          case measure => omega
          case rel => exact ⟨q + 1, by omega, by go_num, by rw [if_neg (by omega)]; rfl, by rw [if_neg (by omega)]; exact HR1.out, HT1.out⟩
        · rw [if_neg (by omega)] at h9
          subst h9
          have HR0 : Hid (CL rb zb ib fb s (j + 2) fold dot h w0 wr) := Lib.hid (by have := HCq.out; rwa [if_neg (by omega)] at this)
          have HMq : Hid (Rm s (j + 2) ((nm ++ ByteArray.mk #[58, 93]).data.toList ++ r)) := Lib.hid (by rw [HN1.out, heq]; have := HM2.out; rwa [bs_app] at this)
          have HEQ := Lib.hid heq
          clear heq
          have HSZ := Lib.hid n3
          clear n3
          go_wp2_with fail
          refine (skip_t rb s _ (j + 2) true _ _ HR0.out.r (by omega) HMq.out).mono ?_
          rintro e w9 ⟨rfl, hr9, hk9⟩
          have HR1 := Lib.hid (HR0.out.call hr9 hk9)
          have HT1 := Lib.hid (HTq.out.kept HR0.out.r hk9)
          clear hr9 hk9
          go_wp2_with fail
          go_roundg g
          case measure => omega
          case rel => exact ⟨q + 1, by omega, by go_num, by have := HEQ.out; rw [if_pos (by omega), HEQ.out], by have := HEQ.out; rw [if_pos (by omega), ← HEQ.out, ← HSZ.out]; exact HR1.out, HT1.out⟩
        · rw [if_pos (by omega)] at h9
          subst h9
          have HR0 : Hid (CL rb zb ib fb s (j + 2 + ((Re.nmL k).length + 2)) fold dot h w0 wr) := Lib.hid (by have := HCq.out; rwa [if_pos (by omega)] at this)
          have k0 : ((k : Int) == 0) = false := by simp; omega
          clear n3
          go_wp2_with fail
          go_roundg g
          case measure => omega
          case rel => exact ⟨q + 1, by omega, by go_num, by rw [if_pos (by omega)], by rw [if_pos (by omega)]; exact HR0.out, HTq.out⟩
end Go.Proofs.YtpfgmiocdgfniaaGreatFmt
