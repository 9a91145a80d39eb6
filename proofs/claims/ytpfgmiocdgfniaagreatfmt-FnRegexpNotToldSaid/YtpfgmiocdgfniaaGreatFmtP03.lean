/- Joined by pack.py: QuoteM. -/
import Derived.Test.YtpfgmiocdgfniaaGreatFmtP01
import Derived.Laws.IdiomStrings
import Derived.Lib.BufferRead
set_option linter.unusedVariables false
set_option maxHeartbeats 8000000
set_option maxRecDepth 1000000
namespace Go.Proofs.YtpfgmiocdgfniaaGreatFmt
open Go.RowKit
def reMeta (n : Nat) : Bool := n == 92 || n == 46 || n == 43 || n == 42 || n == 63 || n == 40 || n == 41 || n == 124 || n == 91 || n == 93 || n == 123 || n == 125 || n == 94 || n == 36
def rq1 (c : UInt8) : List UInt8 := if reMeta c.toNat then [92, c] else [c]
def rq (l : List UInt8) : List UInt8 := l.flatMap rq1
theorem rq_len : ∀ l : List UInt8, (rq l).length ≤ 2 * l.length
  | [] => by simp [rq]
  | c :: r => by
    have h := rq_len r
    simp only [rq] at h
    simp only [rq, List.flatMap_cons, List.length_append, List.length_cons, rq1]
    split <;> simp only [List.length_cons, List.length_nil] <;> omega
theorem rq_snoc (l : List UInt8) (c : UInt8) : rq (l ++ [c]) = rq l ++ rq1 c := by simp [rq]
theorem reMeta_cases (n : Nat) : (reMeta n = false ∧ ((n : Int) == 92) = false ∧ ((n : Int) == 46) = false ∧ ((n : Int) == 43) = false ∧ ((n : Int) == 42) = false ∧ ((n : Int) == 63) = false ∧ ((n : Int) == 40) = false ∧ ((n : Int) == 41) = false ∧ ((n : Int) == 124) = false ∧ ((n : Int) == 91) = false ∧ ((n : Int) == 93) = false ∧ ((n : Int) == 123) = false ∧ ((n : Int) == 125) = false ∧ ((n : Int) == 94) = false ∧ ((n : Int) == 36) = false) ∨
    (reMeta n = true ∧ (n = 92 ∨ n = 46 ∨ n = 43 ∨ n = 42 ∨ n = 63 ∨ n = 40 ∨ n = 41 ∨ n = 124 ∨ n = 91 ∨ n = 93 ∨ n = 123 ∨ n = 125 ∨ n = 94 ∨ n = 36)) := by
  cases h : reMeta n
  · left
    simp [reMeta] at h
    simp only [beq_eq_false_iff_ne, true_and]
    omega
  · right
    simp [reMeta] at h
    exact ⟨rfl, by omega⟩
abbrev Own (w : World) (base : Nat) (v : Value) (l : List UInt8) : Prop := w.ownsRow base 5 1 v l.length (Lib.byteCells l)
theorem own_snoc {w : World} {base : Nat} {v : Value} {acc : List UInt8} {c : UInt8} (h : w.ownsRow base 5 1 v (acc.length + 1) (Lib.byteCells acc ++ [.int .u8 (c.toNat : Int)])) : Own w base v (acc ++ [c]) := by
  have e : Lib.byteCells (acc ++ [c]) = Lib.byteCells acc ++ [.int .u8 (c.toNat : Int)] := by simp [Lib.byteCells]
  unfold Own
  rw [e, List.length_append]
  exact h
theorem zzQuoteMeta_any (s : ByteArray) (w : World) (hs : s.size ≤ 35184372088832) :
    Calls Tryz.prog 42 #[.string s] w fun e w' => e = .returned (.string ⟨(rq s.data.toList).toArray⟩) ∧ Below w.heap.size w w' := by
  obtain ⟨i0, hi, hz0, hz1, hz2⟩ := info_parts infoByte
  go_enter Tryz.func42, Tryz.ntmps42
  go_wp2
  go_loopw [3, 4] (fun v i wr => ∃ k : Nat, k ≤ s.size ∧ i = .int .i64 k ∧ Own wr w.heap.size v (rq (s.data.toList.take k)) ∧ Below w.heap.size w wr) (fun _ i _ => s.size - (intOf i).toNat)
  case atStart => exact ⟨0, Nat.zero_le _, rfl, ⟨rfl, .inl ⟨rfl, rfl⟩⟩, Below.refl _ _⟩
  case round =>
    obtain ⟨k, hk, rfl, hown, hbw⟩ := hrel
    by_cases hlt : k < s.size
    · have hlen := rq_len (s.data.toList.take k)
      have hlk : (s.data.toList.take k).length ≤ k := List.length_take_le _ _
      have HS := Lib.hid (Pat.take_snoc s k hlt)
      generalize hacc : rq (s.data.toList.take k) = acc at *
      have HACC := Lib.hid hacc
      clear hacc
      have hla : acc.length ≤ 2 * k := by omega
      clear hlen hlk
      have hbs := hbw.size
      rcases reMeta_cases s[k].toNat with ⟨hm, k1, k2, k3, k4, k5, k6, k7, k8, k9, k10, k11, k12, k13, k14⟩ | ⟨hm, hm2⟩
      · have HM := Lib.hid hm
        clear hm
        go_wp2_with (at_builtin; refine wpList_append_own _ rfl _ _ 45 rfl w.heap.size 5 i0 (.int .u8 0) 1 1 Tryz.underlying45 hi hz0 hz1 hz2 rfl (by decide) _ _ _ rfl (hown.alloc _) ⟨wr.heap.size, 0, none⟩ 1 1 [.int .u8 (s[k].toNat : Int)] rfl rfl ?c1 ?c2 ?c3 ?c4 ?c5 ?_)
        case c1 =>
          intro j u hj
          match j, hj with
          | 0, hj => simp at hj; subst hj; simp [Addr.add]
        case c2 => intro u hu; simp at hu; subst hu; rfl
        case c3 => unfold maxLen; omega
        case c4 => omega
        case c5 => simp; omega
        intro v' w2 hown' hgrow _
        go_wp2
        go_roundw
        case rel =>
          refine ⟨k + 1, by omega, by go_num, ?_, (hbw.alloc hbs _).grown hgrow (by simp; omega) (fun g hg => (hown.lt g hg).1)⟩
          have e : rq (s.data.toList.take (k + 1)) = acc ++ [s[k]] := by rw [HS.out, rq_snoc, HACC.out]; simp [rq1, HM.out]
          rw [e]
          exact own_snoc hown'
        case measure => simp [intOf]; omega
      · have HM := Lib.hid hm
        clear hm
        rcases hm2 with hv | hv | hv | hv | hv | hv | hv | hv | hv | hv | hv | hv | hv | hv
        · have HV := Lib.hid hv
          have hvi : (s[k].toNat : Int) = 92 := by omega
          clear hv
          go_wp2_with (at_builtin; refine wpList_append_own _ rfl _ _ 45 rfl w.heap.size 5 i0 (.int .u8 0) 1 1 Tryz.underlying45 hi hz0 hz1 hz2 rfl (by decide) _ _ _ rfl (hown.alloc _) ⟨wr.heap.size, 0, none⟩ 1 1 [.int .u8 92] rfl rfl ?c1 ?c2 ?c3 ?c4 ?c5 ?_)
          case c1 =>
            intro j u hj
            match j, hj with
            | 0, hj => simp at hj; subst hj; simp [Addr.add]
          case c2 => intro u hu; simp at hu; subst hu; rfl
          case c3 => unfold maxLen; omega
          case c4 => omega
          case c5 => simp; omega
          intro v1 w1 hown1 hgrow1 _
          have hb1 : Below w.heap.size w w1 := (hbw.alloc hbs _).grown hgrow1 (by simp; omega) (fun g hg => (hown.lt g hg).1)
          have hbs1 := hb1.size
          have hown1 : Own w1 w.heap.size v1 (acc ++ [92]) := own_snoc hown1
          have hl1 : (acc ++ [(92 : UInt8)]).length ≤ 2 * k + 1 := by simp; omega
          generalize hac1 : acc ++ [(92 : UInt8)] = acc1 at *
          have HAC1 := Lib.hid hac1
          clear hac1 hown
          go_wp2_with (at_builtin; refine wpList_append_own _ rfl _ _ 45 rfl w.heap.size 5 i0 (.int .u8 0) 1 1 Tryz.underlying45 hi hz0 hz1 hz2 rfl (by decide) _ _ _ rfl (hown1.alloc _) ⟨w1.heap.size, 0, none⟩ 1 1 [.int .u8 92] rfl rfl ?c1 ?c2 ?c3 ?c4 ?c5 ?_)
          case c1 =>
            intro j u hj
            match j, hj with
            | 0, hj => simp at hj; subst hj; simp [Addr.add]
          case c2 => intro u hu; simp at hu; subst hu; rfl
          case c3 => unfold maxLen; omega
          case c4 => omega
          case c5 => simp; omega
          intro v' w2 hown' hgrow _
          go_wp2
          go_roundw
          case rel =>
            refine ⟨k + 1, by omega, by go_num, ?_, (hb1.alloc hbs1 _).grown hgrow (by simp; omega) (fun g hg => (hown1.lt g hg).1)⟩
            have e : rq (s.data.toList.take (k + 1)) = acc1 ++ [s[k]] := by rw [HS.out, rq_snoc, HACC.out, ← HAC1.out]; simp [rq1, HM.out]
            rw [e]
            refine own_snoc ?_
            rw [HV.out]
            exact hown'
          case measure => simp [intOf]; omega
        · have HV := Lib.hid hv
          have hvi : (s[k].toNat : Int) = 46 := by omega
          clear hv
          go_wp2_with (at_builtin; refine wpList_append_own _ rfl _ _ 45 rfl w.heap.size 5 i0 (.int .u8 0) 1 1 Tryz.underlying45 hi hz0 hz1 hz2 rfl (by decide) _ _ _ rfl (hown.alloc _) ⟨wr.heap.size, 0, none⟩ 1 1 [.int .u8 92] rfl rfl ?c1 ?c2 ?c3 ?c4 ?c5 ?_)
          case c1 =>
            intro j u hj
            match j, hj with
            | 0, hj => simp at hj; subst hj; simp [Addr.add]
          case c2 => intro u hu; simp at hu; subst hu; rfl
          case c3 => unfold maxLen; omega
          case c4 => omega
          case c5 => simp; omega
          intro v1 w1 hown1 hgrow1 _
          have hb1 : Below w.heap.size w w1 := (hbw.alloc hbs _).grown hgrow1 (by simp; omega) (fun g hg => (hown.lt g hg).1)
          have hbs1 := hb1.size
          have hown1 : Own w1 w.heap.size v1 (acc ++ [92]) := own_snoc hown1
          have hl1 : (acc ++ [(92 : UInt8)]).length ≤ 2 * k + 1 := by simp; omega
          generalize hac1 : acc ++ [(92 : UInt8)] = acc1 at *
          have HAC1 := Lib.hid hac1
          clear hac1 hown
          go_wp2_with (at_builtin; refine wpList_append_own _ rfl _ _ 45 rfl w.heap.size 5 i0 (.int .u8 0) 1 1 Tryz.underlying45 hi hz0 hz1 hz2 rfl (by decide) _ _ _ rfl (hown1.alloc _) ⟨w1.heap.size, 0, none⟩ 1 1 [.int .u8 46] rfl rfl ?c1 ?c2 ?c3 ?c4 ?c5 ?_)
          case c1 =>
            intro j u hj
            match j, hj with
            | 0, hj => simp at hj; subst hj; simp [Addr.add]
          case c2 => intro u hu; simp at hu; subst hu; rfl
          case c3 => unfold maxLen; omega
          case c4 => omega
          case c5 => simp; omega
          intro v' w2 hown' hgrow _
          go_wp2
          go_roundw
          case rel =>
            refine ⟨k + 1, by omega, by go_num, ?_, (hb1.alloc hbs1 _).grown hgrow (by simp; omega) (fun g hg => (hown1.lt g hg).1)⟩
            have e : rq (s.data.toList.take (k + 1)) = acc1 ++ [s[k]] := by rw [HS.out, rq_snoc, HACC.out, ← HAC1.out]; simp [rq1, HM.out]
            rw [e]
            refine own_snoc ?_
            rw [HV.out]
            exact hown'
          case measure => simp [intOf]; omega
        · have HV := Lib.hid hv
          have hvi : (s[k].toNat : Int) = 43 := by omega
          clear hv
          go_wp2_with (at_builtin; refine wpList_append_own _ rfl _ _ 45 rfl w.heap.size 5 i0 (.int .u8 0) 1 1 Tryz.underlying45 hi hz0 hz1 hz2 rfl (by decide) _ _ _ rfl (hown.alloc _) ⟨wr.heap.size, 0, none⟩ 1 1 [.int .u8 92] rfl rfl ?c1 ?c2 ?c3 ?c4 ?c5 ?_)
          case c1 =>
            intro j u hj
            match j, hj with
            | 0, hj => simp at hj; subst hj; simp [Addr.add]
          case c2 => intro u hu; simp at hu; subst hu; rfl
          case c3 => unfold maxLen; omega
          case c4 => omega
          case c5 => simp; omega
          intro v1 w1 hown1 hgrow1 _
          have hb1 : Below w.heap.size w w1 := (hbw.alloc hbs _).grown hgrow1 (by simp; omega) (fun g hg => (hown.lt g hg).1)
          have hbs1 := hb1.size
          have hown1 : Own w1 w.heap.size v1 (acc ++ [92]) := own_snoc hown1
          have hl1 : (acc ++ [(92 : UInt8)]).length ≤ 2 * k + 1 := by simp; omega
          generalize hac1 : acc ++ [(92 : UInt8)] = acc1 at *
          have HAC1 := Lib.hid hac1
          clear hac1 hown
          go_wp2_with (at_builtin; refine wpList_append_own _ rfl _ _ 45 rfl w.heap.size 5 i0 (.int .u8 0) 1 1 Tryz.underlying45 hi hz0 hz1 hz2 rfl (by decide) _ _ _ rfl (hown1.alloc _) ⟨w1.heap.size, 0, none⟩ 1 1 [.int .u8 43] rfl rfl ?c1 ?c2 ?c3 ?c4 ?c5 ?_)
          case c1 =>
            intro j u hj
            match j, hj with
            | 0, hj => simp at hj; subst hj; simp [Addr.add]
          case c2 => intro u hu; simp at hu; subst hu; rfl
          case c3 => unfold maxLen; omega
          case c4 => omega
          case c5 => simp; omega
          intro v' w2 hown' hgrow _
          go_wp2
          go_roundw
          case rel =>
            refine ⟨k + 1, by omega, by go_num, ?_, (hb1.alloc hbs1 _).grown hgrow (by simp; omega) (fun g hg => (hown1.lt g hg).1)⟩
            have e : rq (s.data.toList.take (k + 1)) = acc1 ++ [s[k]] := by rw [HS.out, rq_snoc, HACC.out, ← HAC1.out]; simp [rq1, HM.out]
            rw [e]
            refine own_snoc ?_
            rw [HV.out]
            exact hown'
          case measure => simp [intOf]; omega
        · have HV := Lib.hid hv
          have hvi : (s[k].toNat : Int) = 42 := by omega
          clear hv
          go_wp2_with (at_builtin; refine wpList_append_own _ rfl _ _ 45 rfl w.heap.size 5 i0 (.int .u8 0) 1 1 Tryz.underlying45 hi hz0 hz1 hz2 rfl (by decide) _ _ _ rfl (hown.alloc _) ⟨wr.heap.size, 0, none⟩ 1 1 [.int .u8 92] rfl rfl ?c1 ?c2 ?c3 ?c4 ?c5 ?_)
          case c1 =>
            intro j u hj
            match j, hj with
            | 0, hj => simp at hj; subst hj; simp [Addr.add]
          case c2 => intro u hu; simp at hu; subst hu; rfl
          case c3 => unfold maxLen; omega
          case c4 => omega
          case c5 => simp; omega
          intro v1 w1 hown1 hgrow1 _
          have hb1 : Below w.heap.size w w1 := (hbw.alloc hbs _).grown hgrow1 (by simp; omega) (fun g hg => (hown.lt g hg).1)
          have hbs1 := hb1.size
          have hown1 : Own w1 w.heap.size v1 (acc ++ [92]) := own_snoc hown1
          have hl1 : (acc ++ [(92 : UInt8)]).length ≤ 2 * k + 1 := by simp; omega
          generalize hac1 : acc ++ [(92 : UInt8)] = acc1 at *
          have HAC1 := Lib.hid hac1
          clear hac1 hown
          go_wp2_with (at_builtin; refine wpList_append_own _ rfl _ _ 45 rfl w.heap.size 5 i0 (.int .u8 0) 1 1 Tryz.underlying45 hi hz0 hz1 hz2 rfl (by decide) _ _ _ rfl (hown1.alloc _) ⟨w1.heap.size, 0, none⟩ 1 1 [.int .u8 42] rfl rfl ?c1 ?c2 ?c3 ?c4 ?c5 ?_)
          case c1 =>
            intro j u hj
            match j, hj with
            | 0, hj => simp at hj; subst hj; simp [Addr.add]
          case c2 => intro u hu; simp at hu; subst hu; rfl
          case c3 => unfold maxLen; omega
          case c4 => omega
          case c5 => simp; omega
          intro v' w2 hown' hgrow _
          go_wp2
          go_roundw
          case rel =>
            refine ⟨k + 1, by omega, by go_num, ?_, (hb1.alloc hbs1 _).grown hgrow (by simp; omega) (fun g hg => (hown1.lt g hg).1)⟩
            have e : rq (s.data.toList.take (k + 1)) = acc1 ++ [s[k]] := by rw [HS.out, rq_snoc, HACC.out, ← HAC1.out]; simp [rq1, HM.out]
            rw [e]
            refine own_snoc ?_
            rw [HV.out]
            exact hown'
          case measure => simp [intOf]; omega
        · have HV := Lib.hid hv
          have hvi : (s[k].toNat : Int) = 63 := by omega
          clear hv
          go_wp2_with (at_builtin; refine wpList_append_own _ rfl _ _ 45 rfl w.heap.size 5 i0 (.int .u8 0) 1 1 Tryz.underlying45 hi hz0 hz1 hz2 rfl (by decide) _ _ _ rfl (hown.alloc _) ⟨wr.heap.size, 0, none⟩ 1 1 [.int .u8 92] rfl rfl ?c1 ?c2 ?c3 ?c4 ?c5 ?_)
          case c1 =>
            intro j u hj
            match j, hj with
            | 0, hj => simp at hj; subst hj; simp [Addr.add]
          case c2 => intro u hu; simp at hu; subst hu; rfl
          case c3 => unfold maxLen; omega
          case c4 => omega
          case c5 => simp; omega
          intro v1 w1 hown1 hgrow1 _
          have hb1 : Below w.heap.size w w1 := (hbw.alloc hbs _).grown hgrow1 (by simp; omega) (fun g hg => (hown.lt g hg).1)
          have hbs1 := hb1.size
          have hown1 : Own w1 w.heap.size v1 (acc ++ [92]) := own_snoc hown1
          have hl1 : (acc ++ [(92 : UInt8)]).length ≤ 2 * k + 1 := by simp; omega
          generalize hac1 : acc ++ [(92 : UInt8)] = acc1 at *
          have HAC1 := Lib.hid hac1
          clear hac1 hown
          go_wp2_with (at_builtin; refine wpList_append_own _ rfl _ _ 45 rfl w.heap.size 5 i0 (.int .u8 0) 1 1 Tryz.underlying45 hi hz0 hz1 hz2 rfl (by decide) _ _ _ rfl (hown1.alloc _) ⟨w1.heap.size, 0, none⟩ 1 1 [.int .u8 63] rfl rfl ?c1 ?c2 ?c3 ?c4 ?c5 ?_)
          case c1 =>
            intro j u hj
            match j, hj with
            | 0, hj => simp at hj; subst hj; simp [Addr.add]
          case c2 => intro u hu; simp at hu; subst hu; rfl
          case c3 => unfold maxLen; omega
          case c4 => omega
          case c5 => simp; omega
          intro v' w2 hown' hgrow _
          go_wp2
          go_roundw
          case rel =>
            refine ⟨k + 1, by omega, by go_num, ?_, (hb1.alloc hbs1 _).grown hgrow (by simp; omega) (fun g hg => (hown1.lt g hg).1)⟩
            have e : rq (s.data.toList.take (k + 1)) = acc1 ++ [s[k]] := by rw [HS.out, rq_snoc, HACC.out, ← HAC1.out]; simp [rq1, HM.out]
            rw [e]
            refine own_snoc ?_
            rw [HV.out]
            exact hown'
          case measure => simp [intOf]; omega
        · have HV := Lib.hid hv
          have hvi : (s[k].toNat : Int) = 40 := by omega
          clear hv
          go_wp2_with (at_builtin; refine wpList_append_own _ rfl _ _ 45 rfl w.heap.size 5 i0 (.int .u8 0) 1 1 Tryz.underlying45 hi hz0 hz1 hz2 rfl (by decide) _ _ _ rfl (hown.alloc _) ⟨wr.heap.size, 0, none⟩ 1 1 [.int .u8 92] rfl rfl ?c1 ?c2 ?c3 ?c4 ?c5 ?_)
          case c1 =>
            intro j u hj
            match j, hj with
            | 0, hj => simp at hj; subst hj; simp [Addr.add]
          case c2 => intro u hu; simp at hu; subst hu; rfl
          case c3 => unfold maxLen; omega
          case c4 => omega
          case c5 => simp; omega
          intro v1 w1 hown1 hgrow1 _
          have hb1 : Below w.heap.size w w1 := (hbw.alloc hbs _).grown hgrow1 (by simp; omega) (fun g hg => (hown.lt g hg).1)
          have hbs1 := hb1.size
          have hown1 : Own w1 w.heap.size v1 (acc ++ [92]) := own_snoc hown1
          have hl1 : (acc ++ [(92 : UInt8)]).length ≤ 2 * k + 1 := by simp; omega
          generalize hac1 : acc ++ [(92 : UInt8)] = acc1 at *
          have HAC1 := Lib.hid hac1
          clear hac1 hown
          go_wp2_with (at_builtin; refine wpList_append_own _ rfl _ _ 45 rfl w.heap.size 5 i0 (.int .u8 0) 1 1 Tryz.underlying45 hi hz0 hz1 hz2 rfl (by decide) _ _ _ rfl (hown1.alloc _) ⟨w1.heap.size, 0, none⟩ 1 1 [.int .u8 40] rfl rfl ?c1 ?c2 ?c3 ?c4 ?c5 ?_)
          case c1 =>
            intro j u hj
            match j, hj with
            | 0, hj => simp at hj; subst hj; simp [Addr.add]
          case c2 => intro u hu; simp at hu; subst hu; rfl
          case c3 => unfold maxLen; omega
          case c4 => omega
          case c5 => simp; omega
          intro v' w2 hown' hgrow _
          go_wp2
          go_roundw
          case rel =>
            refine ⟨k + 1, by omega, by go_num, ?_, (hb1.alloc hbs1 _).grown hgrow (by simp; omega) (fun g hg => (hown1.lt g hg).1)⟩
            have e : rq (s.data.toList.take (k + 1)) = acc1 ++ [s[k]] := by rw [HS.out, rq_snoc, HACC.out, ← HAC1.out]; simp [rq1, HM.out]
            rw [e]
            refine own_snoc ?_
            rw [HV.out]
            exact hown'
          case measure => simp [intOf]; omega
        · have HV := Lib.hid hv
          have hvi : (s[k].toNat : Int) = 41 := by omega
          clear hv
          go_wp2_with (at_builtin; refine wpList_append_own _ rfl _ _ 45 rfl w.heap.size 5 i0 (.int .u8 0) 1 1 Tryz.underlying45 hi hz0 hz1 hz2 rfl (by decide) _ _ _ rfl (hown.alloc _) ⟨wr.heap.size, 0, none⟩ 1 1 [.int .u8 92] rfl rfl ?c1 ?c2 ?c3 ?c4 ?c5 ?_)
          case c1 =>
            intro j u hj
            match j, hj with
            | 0, hj => simp at hj; subst hj; simp [Addr.add]
          case c2 => intro u hu; simp at hu; subst hu; rfl
          case c3 => unfold maxLen; omega
          case c4 => omega
          case c5 => simp; omega
          intro v1 w1 hown1 hgrow1 _
          have hb1 : Below w.heap.size w w1 := (hbw.alloc hbs _).grown hgrow1 (by simp; omega) (fun g hg => (hown.lt g hg).1)
          have hbs1 := hb1.size
          have hown1 : Own w1 w.heap.size v1 (acc ++ [92]) := own_snoc hown1
          have hl1 : (acc ++ [(92 : UInt8)]).length ≤ 2 * k + 1 := by simp; omega
          generalize hac1 : acc ++ [(92 : UInt8)] = acc1 at *
          have HAC1 := Lib.hid hac1
          clear hac1 hown
          go_wp2_with (at_builtin; refine wpList_append_own _ rfl _ _ 45 rfl w.heap.size 5 i0 (.int .u8 0) 1 1 Tryz.underlying45 hi hz0 hz1 hz2 rfl (by decide) _ _ _ rfl (hown1.alloc _) ⟨w1.heap.size, 0, none⟩ 1 1 [.int .u8 41] rfl rfl ?c1 ?c2 ?c3 ?c4 ?c5 ?_)
          case c1 =>
            intro j u hj
            match j, hj with
            | 0, hj => simp at hj; subst hj; simp [Addr.add]
          case c2 => intro u hu; simp at hu; subst hu; rfl
          case c3 => unfold maxLen; omega
          case c4 => omega
          case c5 => simp; omega
          intro v' w2 hown' hgrow _
          go_wp2
          go_roundw
          case rel =>
            refine ⟨k + 1, by omega, by go_num, ?_, (hb1.alloc hbs1 _).grown hgrow (by simp; omega) (fun g hg => (hown1.lt g hg).1)⟩
            have e : rq (s.data.toList.take (k + 1)) = acc1 ++ [s[k]] := by rw [HS.out, rq_snoc, HACC.out, ← HAC1.out]; simp [rq1, HM.out]
            rw [e]
            refine own_snoc ?_
            rw [HV.out]
            exact hown'
          case measure => simp [intOf]; omega
        · have HV := Lib.hid hv
          have hvi : (s[k].toNat : Int) = 124 := by omega
          clear hv
          go_wp2_with (at_builtin; refine wpList_append_own _ rfl _ _ 45 rfl w.heap.size 5 i0 (.int .u8 0) 1 1 Tryz.underlying45 hi hz0 hz1 hz2 rfl (by decide) _ _ _ rfl (hown.alloc _) ⟨wr.heap.size, 0, none⟩ 1 1 [.int .u8 92] rfl rfl ?c1 ?c2 ?c3 ?c4 ?c5 ?_)
          case c1 =>
            intro j u hj
            match j, hj with
            | 0, hj => simp at hj; subst hj; simp [Addr.add]
          case c2 => intro u hu; simp at hu; subst hu; rfl
          case c3 => unfold maxLen; omega
          case c4 => omega
          case c5 => simp; omega
          intro v1 w1 hown1 hgrow1 _
          have hb1 : Below w.heap.size w w1 := (hbw.alloc hbs _).grown hgrow1 (by simp; omega) (fun g hg => (hown.lt g hg).1)
          have hbs1 := hb1.size
          have hown1 : Own w1 w.heap.size v1 (acc ++ [92]) := own_snoc hown1
          have hl1 : (acc ++ [(92 : UInt8)]).length ≤ 2 * k + 1 := by simp; omega
          generalize hac1 : acc ++ [(92 : UInt8)] = acc1 at *
          have HAC1 := Lib.hid hac1
          clear hac1 hown
          go_wp2_with (at_builtin; refine wpList_append_own _ rfl _ _ 45 rfl w.heap.size 5 i0 (.int .u8 0) 1 1 Tryz.underlying45 hi hz0 hz1 hz2 rfl (by decide) _ _ _ rfl (hown1.alloc _) ⟨w1.heap.size, 0, none⟩ 1 1 [.int .u8 124] rfl rfl ?c1 ?c2 ?c3 ?c4 ?c5 ?_)
          case c1 =>
            intro j u hj
            match j, hj with
            | 0, hj => simp at hj; subst hj; simp [Addr.add]
          case c2 => intro u hu; simp at hu; subst hu; rfl
          case c3 => unfold maxLen; omega
          case c4 => omega
          case c5 => simp; omega
          intro v' w2 hown' hgrow _
          go_wp2
          go_roundw
          case rel =>
            refine ⟨k + 1, by omega, by go_num, ?_, (hb1.alloc hbs1 _).grown hgrow (by simp; omega) (fun g hg => (hown1.lt g hg).1)⟩
            have e : rq (s.data.toList.take (k + 1)) = acc1 ++ [s[k]] := by rw [HS.out, rq_snoc, HACC.out, ← HAC1.out]; simp [rq1, HM.out]
            rw [e]
            refine own_snoc ?_
            rw [HV.out]
            exact hown'
          case measure => simp [intOf]; omega
        · have HV := Lib.hid hv
          have hvi : (s[k].toNat : Int) = 91 := by omega
          clear hv
          go_wp2_with (at_builtin; refine wpList_append_own _ rfl _ _ 45 rfl w.heap.size 5 i0 (.int .u8 0) 1 1 Tryz.underlying45 hi hz0 hz1 hz2 rfl (by decide) _ _ _ rfl (hown.alloc _) ⟨wr.heap.size, 0, none⟩ 1 1 [.int .u8 92] rfl rfl ?c1 ?c2 ?c3 ?c4 ?c5 ?_)
          case c1 =>
            intro j u hj
            match j, hj with
            | 0, hj => simp at hj; subst hj; simp [Addr.add]
          case c2 => intro u hu; simp at hu; subst hu; rfl
          case c3 => unfold maxLen; omega
          case c4 => omega
          case c5 => simp; omega
          intro v1 w1 hown1 hgrow1 _
          have hb1 : Below w.heap.size w w1 := (hbw.alloc hbs _).grown hgrow1 (by simp; omega) (fun g hg => (hown.lt g hg).1)
          have hbs1 := hb1.size
          have hown1 : Own w1 w.heap.size v1 (acc ++ [92]) := own_snoc hown1
          have hl1 : (acc ++ [(92 : UInt8)]).length ≤ 2 * k + 1 := by simp; omega
          generalize hac1 : acc ++ [(92 : UInt8)] = acc1 at *
          have HAC1 := Lib.hid hac1
          clear hac1 hown
          go_wp2_with (at_builtin; refine wpList_append_own _ rfl _ _ 45 rfl w.heap.size 5 i0 (.int .u8 0) 1 1 Tryz.underlying45 hi hz0 hz1 hz2 rfl (by decide) _ _ _ rfl (hown1.alloc _) ⟨w1.heap.size, 0, none⟩ 1 1 [.int .u8 91] rfl rfl ?c1 ?c2 ?c3 ?c4 ?c5 ?_)
          case c1 =>
            intro j u hj
            match j, hj with
            | 0, hj => simp at hj; subst hj; simp [Addr.add]
          case c2 => intro u hu; simp at hu; subst hu; rfl
          case c3 => unfold maxLen; omega
          case c4 => omega
          case c5 => simp; omega
          intro v' w2 hown' hgrow _
          go_wp2
          go_roundw
          case rel =>
            refine ⟨k + 1, by omega, by go_num, ?_, (hb1.alloc hbs1 _).grown hgrow (by simp; omega) (fun g hg => (hown1.lt g hg).1)⟩
            have e : rq (s.data.toList.take (k + 1)) = acc1 ++ [s[k]] := by rw [HS.out, rq_snoc, HACC.out, ← HAC1.out]; simp [rq1, HM.out]
            rw [e]
            refine own_snoc ?_
            rw [HV.out]
            exact hown'
          case measure => simp [intOf]; omega
        · have HV := Lib.hid hv
          have hvi : (s[k].toNat : Int) = 93 := by omega
          clear hv
          go_wp2_with (at_builtin; refine wpList_append_own _ rfl _ _ 45 rfl w.heap.size 5 i0 (.int .u8 0) 1 1 Tryz.underlying45 hi hz0 hz1 hz2 rfl (by decide) _ _ _ rfl (hown.alloc _) ⟨wr.heap.size, 0, none⟩ 1 1 [.int .u8 92] rfl rfl ?c1 ?c2 ?c3 ?c4 ?c5 ?_)
          case c1 =>
            intro j u hj
            match j, hj with
            | 0, hj => simp at hj; subst hj; simp [Addr.add]
          case c2 => intro u hu; simp at hu; subst hu; rfl
          case c3 => unfold maxLen; omega
          case c4 => omega
          case c5 => simp; omega
          intro v1 w1 hown1 hgrow1 _
          have hb1 : Below w.heap.size w w1 := (hbw.alloc hbs _).grown hgrow1 (by simp; omega) (fun g hg => (hown.lt g hg).1)
          have hbs1 := hb1.size
          have hown1 : Own w1 w.heap.size v1 (acc ++ [92]) := own_snoc hown1
          have hl1 : (acc ++ [(92 : UInt8)]).length ≤ 2 * k + 1 := by simp; omega
          generalize hac1 : acc ++ [(92 : UInt8)] = acc1 at *
          have HAC1 := Lib.hid hac1
          clear hac1 hown
          go_wp2_with (at_builtin; refine wpList_append_own _ rfl _ _ 45 rfl w.heap.size 5 i0 (.int .u8 0) 1 1 Tryz.underlying45 hi hz0 hz1 hz2 rfl (by decide) _ _ _ rfl (hown1.alloc _) ⟨w1.heap.size, 0, none⟩ 1 1 [.int .u8 93] rfl rfl ?c1 ?c2 ?c3 ?c4 ?c5 ?_)
          case c1 =>
            intro j u hj
            match j, hj with
            | 0, hj => simp at hj; subst hj; simp [Addr.add]
          case c2 => intro u hu; simp at hu; subst hu; rfl
          case c3 => unfold maxLen; omega
          case c4 => omega
          case c5 => simp; omega
          intro v' w2 hown' hgrow _
          go_wp2
          go_roundw
          case rel =>
            refine ⟨k + 1, by omega, by go_num, ?_, (hb1.alloc hbs1 _).grown hgrow (by simp; omega) (fun g hg => (hown1.lt g hg).1)⟩
            have e : rq (s.data.toList.take (k + 1)) = acc1 ++ [s[k]] := by rw [HS.out, rq_snoc, HACC.out, ← HAC1.out]; simp [rq1, HM.out]
            rw [e]
            refine own_snoc ?_
            rw [HV.out]
            exact hown'
          case measure => simp [intOf]; omega
        · have HV := Lib.hid hv
          have hvi : (s[k].toNat : Int) = 123 := by omega
          clear hv
          go_wp2_with (at_builtin; refine wpList_append_own _ rfl _ _ 45 rfl w.heap.size 5 i0 (.int .u8 0) 1 1 Tryz.underlying45 hi hz0 hz1 hz2 rfl (by decide) _ _ _ rfl (hown.alloc _) ⟨wr.heap.size, 0, none⟩ 1 1 [.int .u8 92] rfl rfl ?c1 ?c2 ?c3 ?c4 ?c5 ?_)
          case c1 =>
            intro j u hj
            match j, hj with
            | 0, hj => simp at hj; subst hj; simp [Addr.add]
          case c2 => intro u hu; simp at hu; subst hu; rfl
          case c3 => unfold maxLen; omega
          case c4 => omega
          case c5 => simp; omega
          intro v1 w1 hown1 hgrow1 _
          have hb1 : Below w.heap.size w w1 := (hbw.alloc hbs _).grown hgrow1 (by simp; omega) (fun g hg => (hown.lt g hg).1)
          have hbs1 := hb1.size
          have hown1 : Own w1 w.heap.size v1 (acc ++ [92]) := own_snoc hown1
          have hl1 : (acc ++ [(92 : UInt8)]).length ≤ 2 * k + 1 := by simp; omega
          generalize hac1 : acc ++ [(92 : UInt8)] = acc1 at *
          have HAC1 := Lib.hid hac1
          clear hac1 hown
          go_wp2_with (at_builtin; refine wpList_append_own _ rfl _ _ 45 rfl w.heap.size 5 i0 (.int .u8 0) 1 1 Tryz.underlying45 hi hz0 hz1 hz2 rfl (by decide) _ _ _ rfl (hown1.alloc _) ⟨w1.heap.size, 0, none⟩ 1 1 [.int .u8 123] rfl rfl ?c1 ?c2 ?c3 ?c4 ?c5 ?_)
          case c1 =>
            intro j u hj
            match j, hj with
            | 0, hj => simp at hj; subst hj; simp [Addr.add]
          case c2 => intro u hu; simp at hu; subst hu; rfl
          case c3 => unfold maxLen; omega
          case c4 => omega
          case c5 => simp; omega
          intro v' w2 hown' hgrow _
          go_wp2
          go_roundw
          case rel =>
            refine ⟨k + 1, by omega, by go_num, ?_, (hb1.alloc hbs1 _).grown hgrow (by simp; omega) (fun g hg => (hown1.lt g hg).1)⟩
            have e : rq (s.data.toList.take (k + 1)) = acc1 ++ [s[k]] := by rw [HS.out, rq_snoc, HACC.out, ← HAC1.out]; simp [rq1, HM.out]
            rw [e]
            refine own_snoc ?_
            rw [HV.out]
            exact hown'
          case measure => simp [intOf]; omega
        · have HV := Lib.hid hv
          have hvi : (s[k].toNat : Int) = 125 := by omega
          clear hv
          go_wp2_with (at_builtin; refine wpList_append_own _ rfl _ _ 45 rfl w.heap.size 5 i0 (.int .u8 0) 1 1 Tryz.underlying45 hi hz0 hz1 hz2 rfl (by decide) _ _ _ rfl (hown.alloc _) ⟨wr.heap.size, 0, none⟩ 1 1 [.int .u8 92] rfl rfl ?c1 ?c2 ?c3 ?c4 ?c5 ?_)
          case c1 =>
            intro j u hj
            match j, hj with
            | 0, hj => simp at hj; subst hj; simp [Addr.add]
          case c2 => intro u hu; simp at hu; subst hu; rfl
          case c3 => unfold maxLen; omega
          case c4 => omega
          case c5 => simp; omega
          intro v1 w1 hown1 hgrow1 _
          have hb1 : Below w.heap.size w w1 := (hbw.alloc hbs _).grown hgrow1 (by simp; omega) (fun g hg => (hown.lt g hg).1)
          have hbs1 := hb1.size
          have hown1 : Own w1 w.heap.size v1 (acc ++ [92]) := own_snoc hown1
          have hl1 : (acc ++ [(92 : UInt8)]).length ≤ 2 * k + 1 := by simp; omega
          generalize hac1 : acc ++ [(92 : UInt8)] = acc1 at *
          have HAC1 := Lib.hid hac1
          clear hac1 hown
          go_wp2_with (at_builtin; refine wpList_append_own _ rfl _ _ 45 rfl w.heap.size 5 i0 (.int .u8 0) 1 1 Tryz.underlying45 hi hz0 hz1 hz2 rfl (by decide) _ _ _ rfl (hown1.alloc _) ⟨w1.heap.size, 0, none⟩ 1 1 [.int .u8 125] rfl rfl ?c1 ?c2 ?c3 ?c4 ?c5 ?_)
          case c1 =>
            intro j u hj
            match j, hj with
            | 0, hj => simp at hj; subst hj; simp [Addr.add]
          case c2 => intro u hu; simp at hu; subst hu; rfl
          case c3 => unfold maxLen; omega
          case c4 => omega
          case c5 => simp; omega
          intro v' w2 hown' hgrow _
          go_wp2
          go_roundw
          case rel =>
            refine ⟨k + 1, by omega, by go_num, ?_, (hb1.alloc hbs1 _).grown hgrow (by simp; omega) (fun g hg => (hown1.lt g hg).1)⟩
            have e : rq (s.data.toList.take (k + 1)) = acc1 ++ [s[k]] := by rw [HS.out, rq_snoc, HACC.out, ← HAC1.out]; simp [rq1, HM.out]
            rw [e]
            refine own_snoc ?_
            rw [HV.out]
            exact hown'
          case measure => simp [intOf]; omega
        · have HV := Lib.hid hv
          have hvi : (s[k].toNat : Int) = 94 := by omega
          clear hv
          go_wp2_with (at_builtin; refine wpList_append_own _ rfl _ _ 45 rfl w.heap.size 5 i0 (.int .u8 0) 1 1 Tryz.underlying45 hi hz0 hz1 hz2 rfl (by decide) _ _ _ rfl (hown.alloc _) ⟨wr.heap.size, 0, none⟩ 1 1 [.int .u8 92] rfl rfl ?c1 ?c2 ?c3 ?c4 ?c5 ?_)
          case c1 =>
            intro j u hj
            match j, hj with
            | 0, hj => simp at hj; subst hj; simp [Addr.add]
          case c2 => intro u hu; simp at hu; subst hu; rfl
          case c3 => unfold maxLen; omega
          case c4 => omega
          case c5 => simp; omega
          intro v1 w1 hown1 hgrow1 _
          have hb1 : Below w.heap.size w w1 := (hbw.alloc hbs _).grown hgrow1 (by simp; omega) (fun g hg => (hown.lt g hg).1)
          have hbs1 := hb1.size
          have hown1 : Own w1 w.heap.size v1 (acc ++ [92]) := own_snoc hown1
          have hl1 : (acc ++ [(92 : UInt8)]).length ≤ 2 * k + 1 := by simp; omega
          generalize hac1 : acc ++ [(92 : UInt8)] = acc1 at *
          have HAC1 := Lib.hid hac1
          clear hac1 hown
          go_wp2_with (at_builtin; refine wpList_append_own _ rfl _ _ 45 rfl w.heap.size 5 i0 (.int .u8 0) 1 1 Tryz.underlying45 hi hz0 hz1 hz2 rfl (by decide) _ _ _ rfl (hown1.alloc _) ⟨w1.heap.size, 0, none⟩ 1 1 [.int .u8 94] rfl rfl ?c1 ?c2 ?c3 ?c4 ?c5 ?_)
          case c1 =>
            intro j u hj
            match j, hj with
            | 0, hj => simp at hj; subst hj; simp [Addr.add]
          case c2 => intro u hu; simp at hu; subst hu; rfl
          case c3 => unfold maxLen; omega
          case c4 => omega
          case c5 => simp; omega
          intro v' w2 hown' hgrow _
          go_wp2
          go_roundw
          case rel =>
            refine ⟨k + 1, by omega, by go_num, ?_, (hb1.alloc hbs1 _).grown hgrow (by simp; omega) (fun g hg => (hown1.lt g hg).1)⟩
            have e : rq (s.data.toList.take (k + 1)) = acc1 ++ [s[k]] := by rw [HS.out, rq_snoc, HACC.out, ← HAC1.out]; simp [rq1, HM.out]
            rw [e]
            refine own_snoc ?_
            rw [HV.out]
            exact hown'
          case measure => simp [intOf]; omega
        · have HV := Lib.hid hv
          have hvi : (s[k].toNat : Int) = 36 := by omega
          clear hv
          go_wp2_with (at_builtin; refine wpList_append_own _ rfl _ _ 45 rfl w.heap.size 5 i0 (.int .u8 0) 1 1 Tryz.underlying45 hi hz0 hz1 hz2 rfl (by decide) _ _ _ rfl (hown.alloc _) ⟨wr.heap.size, 0, none⟩ 1 1 [.int .u8 92] rfl rfl ?c1 ?c2 ?c3 ?c4 ?c5 ?_)
          case c1 =>
            intro j u hj
            match j, hj with
            | 0, hj => simp at hj; subst hj; simp [Addr.add]
          case c2 => intro u hu; simp at hu; subst hu; rfl
          case c3 => unfold maxLen; omega
          case c4 => omega
          case c5 => simp; omega
          intro v1 w1 hown1 hgrow1 _
          have hb1 : Below w.heap.size w w1 := (hbw.alloc hbs _).grown hgrow1 (by simp; omega) (fun g hg => (hown.lt g hg).1)
          have hbs1 := hb1.size
          have hown1 : Own w1 w.heap.size v1 (acc ++ [92]) := own_snoc hown1
          have hl1 : (acc ++ [(92 : UInt8)]).length ≤ 2 * k + 1 := by simp; omega
          generalize hac1 : acc ++ [(92 : UInt8)] = acc1 at *
          have HAC1 := Lib.hid hac1
          clear hac1 hown
          go_wp2_with (at_builtin; refine wpList_append_own _ rfl _ _ 45 rfl w.heap.size 5 i0 (.int .u8 0) 1 1 Tryz.underlying45 hi hz0 hz1 hz2 rfl (by decide) _ _ _ rfl (hown1.alloc _) ⟨w1.heap.size, 0, none⟩ 1 1 [.int .u8 36] rfl rfl ?c1 ?c2 ?c3 ?c4 ?c5 ?_)
          case c1 =>
            intro j u hj
            match j, hj with
            | 0, hj => simp at hj; subst hj; simp [Addr.add]
          case c2 => intro u hu; simp at hu; subst hu; rfl
          case c3 => unfold maxLen; omega
          case c4 => omega
          case c5 => simp; omega
          intro v' w2 hown' hgrow _
          go_wp2
          go_roundw
          case rel =>
            refine ⟨k + 1, by omega, by go_num, ?_, (hb1.alloc hbs1 _).grown hgrow (by simp; omega) (fun g hg => (hown1.lt g hg).1)⟩
            have e : rq (s.data.toList.take (k + 1)) = acc1 ++ [s[k]] := by rw [HS.out, rq_snoc, HACC.out, ← HAC1.out]; simp [rq1, HM.out]
            rw [e]
            refine own_snoc ?_
            rw [HV.out]
            exact hown'
          case measure => simp [intOf]; omega
    · have hl := Pat.take_all s k (by omega)
      rw [hl] at hown
      generalize hacc : rq s.data.toList = acc at *
      have HACC := Lib.hid hacc
      clear hacc
      rcases hown.2 with ⟨rfl, h0⟩ | ⟨g, cap, cur, rfl, hbg, hg, hfz, hcc, hcs, htake⟩
      · have hnil : acc = [] := List.length_eq_zero_iff.1 h0
        subst hnil
        have hcv := fun (w : World) (c : Nat) => Lib.run_convert_nil_bytes (P := Tryz.prog) w 45 9 5 c Tryz.underlying45 Tryz.underlying5 Tryz.underlying9
        go_wp2
        go_ret
        exact ⟨by rw [HACC.out]; rfl, hbw⟩
      · have hcv := run_convert_bytes_back (P := Tryz.prog) wr 45 9 5 ⟨g, 0, none⟩ cap acc Tryz.underlying45 Tryz.underlying5 Tryz.underlying9 (fun j hj => by
          refine hown.cells (g := g) rfl j _ ?_
          simp [Lib.byteCells, List.getElem?_eq_getElem hj])
        clear hown hg hfz hcs htake
        go_wp2
        go_ret
        exact ⟨by rw [HACC.out]; rfl, hbw⟩
end Go.Proofs.YtpfgmiocdgfniaaGreatFmt
