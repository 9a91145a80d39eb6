/- Joined by pack.py: QuoteM, NextM, NextS. -/
import Derived.Test.YtjoefmnkbcoblaaFmtP03
import Derived.Laws.IdiomStrings
import Derived.Lib.BufferRead
import Derived.Test.YtjoefmnkbcoblaaFmtP02
import Derived.Test.YtjoefmnkbcoblaaFmtP04
import Derived.Stop.FmtQuoteTie
/- Walk: zzQuoteMeta (regexp.QuoteMeta). -/
namespace Go.Proofs.YtjoefmnkbcoblaaFmt
open Go.RowKit
set_option linter.unusedVariables false

/-- the bytes that zzQuoteMeta quotes -/
def reMeta (n : Nat) : Bool := n == 92 || n == 46 || n == 43 || n == 42 || n == 63 || n == 40 || n == 41 || n == 124 || n == 91 || n == 93 || n == 123 || n == 125 || n == 94 || n == 36
def rq1 (c : UInt8) : List UInt8 := if reMeta c.toNat then [92, c] else [c]
def rq (l : List UInt8) : List UInt8 := l.flatMap rq1
theorem rq_len : ∀ l : List UInt8, (rq l).length ≤ 2 * l.length
  | [] => by simp [rq]
  | c :: r => by
    have h := rq_len r
    simp only [rq] at h
    simp only [rq, List.flatMap_cons, List.length_append, List.length_cons, rq1]
    split <;> simp only [List.length_cons, List.length_nil] <;> omega
theorem rq_snoc (l : List UInt8) (c : UInt8) : rq (l ++ [c]) = rq l ++ rq1 c := by simp [rq]
theorem reMeta_cases (n : Nat) : (reMeta n = false ∧ ((n : Int) == 92) = false ∧ ((n : Int) == 46) = false ∧ ((n : Int) == 43) = false ∧ ((n : Int) == 42) = false ∧ ((n : Int) == 63) = false ∧ ((n : Int) == 40) = false ∧ ((n : Int) == 41) = false ∧ ((n : Int) == 124) = false ∧ ((n : Int) == 91) = false ∧ ((n : Int) == 93) = false ∧ ((n : Int) == 123) = false ∧ ((n : Int) == 125) = false ∧ ((n : Int) == 94) = false ∧ ((n : Int) == 36) = false) ∨
    (reMeta n = true ∧ (n = 92 ∨ n = 46 ∨ n = 43 ∨ n = 42 ∨ n = 63 ∨ n = 40 ∨ n = 41 ∨ n = 124 ∨ n = 91 ∨ n = 93 ∨ n = 123 ∨ n = 125 ∨ n = 94 ∨ n = 36)) := by
  cases h : reMeta n
  · left
    simp [reMeta] at h
    simp only [beq_eq_false_iff_ne, true_and]
    omega
  · right
    simp [reMeta] at h
    exact ⟨rfl, by omega⟩

/-- what a slice of bytes of the call's own holds -/
abbrev Own (w : World) (base : Nat) (v : Value) (l : List UInt8) : Prop := w.ownsRow base 5 1 v l.length (Lib.byteCells l)

theorem own_snoc {w : World} {base : Nat} {v : Value} {acc : List UInt8} {c : UInt8} (h : w.ownsRow base 5 1 v (acc.length + 1) (Lib.byteCells acc ++ [.int .u8 (c.toNat : Int)])) : Own w base v (acc ++ [c]) := by
  have e : Lib.byteCells (acc ++ [c]) = Lib.byteCells acc ++ [.int .u8 (c.toNat : Int)] := by simp [Lib.byteCells]
  unfold Own
  rw [e, List.length_append]
  exact h

set_option maxRecDepth 100000 in
set_option maxHeartbeats 4000000 in
theorem zzQuoteMeta_any (s : ByteArray) (w : World) (hs : s.size ≤ 35184372088832) :
    Calls Tryf.prog 45 #[.string s] w fun e w' => e = .returned (.string ⟨(rq s.data.toList).toArray⟩) ∧ Below w.heap.size w w' := by
  obtain ⟨i0, hi, hz0, hz1, hz2⟩ := info_parts infoByte
  go_enter Tryf.func45, Tryf.ntmps45
  go_wp2
  go_loopw [3, 4] (fun v i wr => ∃ k : Nat, k ≤ s.size ∧ i = .int .i64 k ∧ Own wr w.heap.size v (rq (s.data.toList.take k)) ∧ Below w.heap.size w wr) (fun _ i _ => s.size - (intOf i).toNat)
  case atStart => exact ⟨0, Nat.zero_le _, rfl, ⟨rfl, .inl ⟨rfl, rfl⟩⟩, Below.refl _ _⟩
  case round =>
    obtain ⟨k, hk, rfl, hown, hbw⟩ := hrel
    by_cases hlt : k < s.size
    · have hlen := rq_len (s.data.toList.take k)
      have hlk : (s.data.toList.take k).length ≤ k := List.length_take_le _ _
      have HS := Lib.hid (Pat.take_snoc s k hlt)
      generalize hacc : rq (s.data.toList.take k) = acc at *
      have HACC := Lib.hid hacc
      clear hacc
      have hla : acc.length ≤ 2 * k := by omega
      clear hlen hlk
      have hbs := hbw.size
      rcases reMeta_cases s[k].toNat with ⟨hm, k1, k2, k3, k4, k5, k6, k7, k8, k9, k10, k11, k12, k13, k14⟩ | ⟨hm, hm2⟩
      · have HM := Lib.hid hm
        clear hm
        go_wp2_with (at_builtin; refine wpList_append_own _ rfl _ _ 37 rfl w.heap.size 5 i0 (.int .u8 0) 1 1 Tryf.underlying37 hi hz0 hz1 hz2 rfl (by decide) _ _ _ rfl (hown.alloc _) ⟨wr.heap.size, 0, none⟩ 1 1 [.int .u8 (s[k].toNat : Int)] rfl rfl ?c1 ?c2 ?c3 ?c4 ?c5 ?_)
        case c1 =>
          intro j u hj
          match j, hj with
          | 0, hj => simp at hj; subst hj; simp [Addr.add]
        case c2 => intro u hu; simp at hu; subst hu; rfl
        case c3 => unfold maxLen; omega
        case c4 => omega
        case c5 => simp; omega
        intro v' w2 hown' hgrow _
        go_wp2
        go_roundw
        case rel =>
          refine ⟨k + 1, by omega, by go_num, ?_, (hbw.alloc hbs _).grown hgrow (by simp; omega) (fun g hg => (hown.lt g hg).1)⟩
          have e : rq (s.data.toList.take (k + 1)) = acc ++ [s[k]] := by rw [HS.out, rq_snoc, HACC.out]; simp [rq1, HM.out]
          rw [e]
          exact own_snoc hown'
        case measure => simp [intOf]; omega
      · have HM := Lib.hid hm
        clear hm
        rcases hm2 with hv | hv | hv | hv | hv | hv | hv | hv | hv | hv | hv | hv | hv | hv
        · have HV := Lib.hid hv
          have hvi : (s[k].toNat : Int) = 92 := by omega
          clear hv
          go_wp2_with (at_builtin; refine wpList_append_own _ rfl _ _ 37 rfl w.heap.size 5 i0 (.int .u8 0) 1 1 Tryf.underlying37 hi hz0 hz1 hz2 rfl (by decide) _ _ _ rfl (hown.alloc _) ⟨wr.heap.size, 0, none⟩ 1 1 [.int .u8 92] rfl rfl ?c1 ?c2 ?c3 ?c4 ?c5 ?_)
          case c1 =>
            intro j u hj
            match j, hj with
            | 0, hj => simp at hj; subst hj; simp [Addr.add]
          case c2 => intro u hu; simp at hu; subst hu; rfl
          case c3 => unfold maxLen; omega
          case c4 => omega
          case c5 => simp; omega
          intro v1 w1 hown1 hgrow1 _
          have hb1 : Below w.heap.size w w1 := (hbw.alloc hbs _).grown hgrow1 (by simp; omega) (fun g hg => (hown.lt g hg).1)
          have hbs1 := hb1.size
          have hown1 : Own w1 w.heap.size v1 (acc ++ [92]) := own_snoc hown1
          have hl1 : (acc ++ [(92 : UInt8)]).length ≤ 2 * k + 1 := by simp; omega
          generalize hac1 : acc ++ [(92 : UInt8)] = acc1 at *
          have HAC1 := Lib.hid hac1
          clear hac1 hown
          go_wp2_with (at_builtin; refine wpList_append_own _ rfl _ _ 37 rfl w.heap.size 5 i0 (.int .u8 0) 1 1 Tryf.underlying37 hi hz0 hz1 hz2 rfl (by decide) _ _ _ rfl (hown1.alloc _) ⟨w1.heap.size, 0, none⟩ 1 1 [.int .u8 92] rfl rfl ?c1 ?c2 ?c3 ?c4 ?c5 ?_)
          case c1 =>
            intro j u hj
            match j, hj with
            | 0, hj => simp at hj; subst hj; simp [Addr.add]
          case c2 => intro u hu; simp at hu; subst hu; rfl
          case c3 => unfold maxLen; omega
          case c4 => omega
          case c5 => simp; omega
          intro v' w2 hown' hgrow _
          go_wp2
          go_roundw
          case rel =>
            refine ⟨k + 1, by omega, by go_num, ?_, (hb1.alloc hbs1 _).grown hgrow (by simp; omega) (fun g hg => (hown1.lt g hg).1)⟩
            have e : rq (s.data.toList.take (k + 1)) = acc1 ++ [s[k]] := by rw [HS.out, rq_snoc, HACC.out, ← HAC1.out]; simp [rq1, HM.out]
            rw [e]
            refine own_snoc ?_
            rw [HV.out]
            exact hown'
          case measure => simp [intOf]; omega
        · have HV := Lib.hid hv
          have hvi : (s[k].toNat : Int) = 46 := by omega
          clear hv
          go_wp2_with (at_builtin; refine wpList_append_own _ rfl _ _ 37 rfl w.heap.size 5 i0 (.int .u8 0) 1 1 Tryf.underlying37 hi hz0 hz1 hz2 rfl (by decide) _ _ _ rfl (hown.alloc _) ⟨wr.heap.size, 0, none⟩ 1 1 [.int .u8 92] rfl rfl ?c1 ?c2 ?c3 ?c4 ?c5 ?_)
          case c1 =>
            intro j u hj
            match j, hj with
            | 0, hj => simp at hj; subst hj; simp [Addr.add]
          case c2 => intro u hu; simp at hu; subst hu; rfl
          case c3 => unfold maxLen; omega
          case c4 => omega
          case c5 => simp; omega
          intro v1 w1 hown1 hgrow1 _
          have hb1 : Below w.heap.size w w1 := (hbw.alloc hbs _).grown hgrow1 (by simp; omega) (fun g hg => (hown.lt g hg).1)
          have hbs1 := hb1.size
          have hown1 : Own w1 w.heap.size v1 (acc ++ [92]) := own_snoc hown1
          have hl1 : (acc ++ [(92 : UInt8)]).length ≤ 2 * k + 1 := by simp; omega
          generalize hac1 : acc ++ [(92 : UInt8)] = acc1 at *
          have HAC1 := Lib.hid hac1
          clear hac1 hown
          go_wp2_with (at_builtin; refine wpList_append_own _ rfl _ _ 37 rfl w.heap.size 5 i0 (.int .u8 0) 1 1 Tryf.underlying37 hi hz0 hz1 hz2 rfl (by decide) _ _ _ rfl (hown1.alloc _) ⟨w1.heap.size, 0, none⟩ 1 1 [.int .u8 46] rfl rfl ?c1 ?c2 ?c3 ?c4 ?c5 ?_)
          case c1 =>
            intro j u hj
            match j, hj with
            | 0, hj => simp at hj; subst hj; simp [Addr.add]
          case c2 => intro u hu; simp at hu; subst hu; rfl
          case c3 => unfold maxLen; omega
          case c4 => omega
          case c5 => simp; omega
          intro v' w2 hown' hgrow _
          go_wp2
          go_roundw
          case rel =>
            refine ⟨k + 1, by omega, by go_num, ?_, (hb1.alloc hbs1 _).grown hgrow (by simp; omega) (fun g hg => (hown1.lt g hg).1)⟩
            have e : rq (s.data.toList.take (k + 1)) = acc1 ++ [s[k]] := by rw [HS.out, rq_snoc, HACC.out, ← HAC1.out]; simp [rq1, HM.out]
            rw [e]
            refine own_snoc ?_
            rw [HV.out]
            exact hown'
          case measure => simp [intOf]; omega
        · have HV := Lib.hid hv
          have hvi : (s[k].toNat : Int) = 43 := by omega
          clear hv
          go_wp2_with (at_builtin; refine wpList_append_own _ rfl _ _ 37 rfl w.heap.size 5 i0 (.int .u8 0) 1 1 Tryf.underlying37 hi hz0 hz1 hz2 rfl (by decide) _ _ _ rfl (hown.alloc _) ⟨wr.heap.size, 0, none⟩ 1 1 [.int .u8 92] rfl rfl ?c1 ?c2 ?c3 ?c4 ?c5 ?_)
          case c1 =>
            intro j u hj
            match j, hj with
            | 0, hj => simp at hj; subst hj; simp [Addr.add]
          case c2 => intro u hu; simp at hu; subst hu; rfl
          case c3 => unfold maxLen; omega
          case c4 => omega
          case c5 => simp; omega
          intro v1 w1 hown1 hgrow1 _
          have hb1 : Below w.heap.size w w1 := (hbw.alloc hbs _).grown hgrow1 (by simp; omega) (fun g hg => (hown.lt g hg).1)
          have hbs1 := hb1.size
          have hown1 : Own w1 w.heap.size v1 (acc ++ [92]) := own_snoc hown1
          have hl1 : (acc ++ [(92 : UInt8)]).length ≤ 2 * k + 1 := by simp; omega
          generalize hac1 : acc ++ [(92 : UInt8)] = acc1 at *
          have HAC1 := Lib.hid hac1
          clear hac1 hown
          go_wp2_with (at_builtin; refine wpList_append_own _ rfl _ _ 37 rfl w.heap.size 5 i0 (.int .u8 0) 1 1 Tryf.underlying37 hi hz0 hz1 hz2 rfl (by decide) _ _ _ rfl (hown1.alloc _) ⟨w1.heap.size, 0, none⟩ 1 1 [.int .u8 43] rfl rfl ?c1 ?c2 ?c3 ?c4 ?c5 ?_)
          case c1 =>
            intro j u hj
            match j, hj with
            | 0, hj => simp at hj; subst hj; simp [Addr.add]
          case c2 => intro u hu; simp at hu; subst hu; rfl
          case c3 => unfold maxLen; omega
          case c4 => omega
          case c5 => simp; omega
          intro v' w2 hown' hgrow _
          go_wp2
          go_roundw
          case rel =>
            refine ⟨k + 1, by omega, by go_num, ?_, (hb1.alloc hbs1 _).grown hgrow (by simp; omega) (fun g hg => (hown1.lt g hg).1)⟩
            have e : rq (s.data.toList.take (k + 1)) = acc1 ++ [s[k]] := by rw [HS.out, rq_snoc, HACC.out, ← HAC1.out]; simp [rq1, HM.out]
            rw [e]
            refine own_snoc ?_
            rw [HV.out]
            exact hown'
          case measure => simp [intOf]; omega
        · have HV := Lib.hid hv
          have hvi : (s[k].toNat : Int) = 42 := by omega
          clear hv
          go_wp2_with (at_builtin; refine wpList_append_own _ rfl _ _ 37 rfl w.heap.size 5 i0 (.int .u8 0) 1 1 Tryf.underlying37 hi hz0 hz1 hz2 rfl (by decide) _ _ _ rfl (hown.alloc _) ⟨wr.heap.size, 0, none⟩ 1 1 [.int .u8 92] rfl rfl ?c1 ?c2 ?c3 ?c4 ?c5 ?_)
          case c1 =>
            intro j u hj
            match j, hj with
            | 0, hj => simp at hj; subst hj; simp [Addr.add]
          case c2 => intro u hu; simp at hu; subst hu; rfl
          case c3 => unfold maxLen; omega
          case c4 => omega
          case c5 => simp; omega
          intro v1 w1 hown1 hgrow1 _
          have hb1 : Below w.heap.size w w1 := (hbw.alloc hbs _).grown hgrow1 (by simp; omega) (fun g hg => (hown.lt g hg).1)
          have hbs1 := hb1.size
          have hown1 : Own w1 w.heap.size v1 (acc ++ [92]) := own_snoc hown1
          have hl1 : (acc ++ [(92 : UInt8)]).length ≤ 2 * k + 1 := by simp; omega
          generalize hac1 : acc ++ [(92 : UInt8)] = acc1 at *
          have HAC1 := Lib.hid hac1
          clear hac1 hown
          go_wp2_with (at_builtin; refine wpList_append_own _ rfl _ _ 37 rfl w.heap.size 5 i0 (.int .u8 0) 1 1 Tryf.underlying37 hi hz0 hz1 hz2 rfl (by decide) _ _ _ rfl (hown1.alloc _) ⟨w1.heap.size, 0, none⟩ 1 1 [.int .u8 42] rfl rfl ?c1 ?c2 ?c3 ?c4 ?c5 ?_)
          case c1 =>
            intro j u hj
            match j, hj with
            | 0, hj => simp at hj; subst hj; simp [Addr.add]
          case c2 => intro u hu; simp at hu; subst hu; rfl
          case c3 => unfold maxLen; omega
          case c4 => omega
          case c5 => simp; omega
          intro v' w2 hown' hgrow _
          go_wp2
          go_roundw
          case rel =>
            refine ⟨k + 1, by omega, by go_num, ?_, (hb1.alloc hbs1 _).grown hgrow (by simp; omega) (fun g hg => (hown1.lt g hg).1)⟩
            have e : rq (s.data.toList.take (k + 1)) = acc1 ++ [s[k]] := by rw [HS.out, rq_snoc, HACC.out, ← HAC1.out]; simp [rq1, HM.out]
            rw [e]
            refine own_snoc ?_
            rw [HV.out]
            exact hown'
          case measure => simp [intOf]; omega
        · have HV := Lib.hid hv
          have hvi : (s[k].toNat : Int) = 63 := by omega
          clear hv
          go_wp2_with (at_builtin; refine wpList_append_own _ rfl _ _ 37 rfl w.heap.size 5 i0 (.int .u8 0) 1 1 Tryf.underlying37 hi hz0 hz1 hz2 rfl (by decide) _ _ _ rfl (hown.alloc _) ⟨wr.heap.size, 0, none⟩ 1 1 [.int .u8 92] rfl rfl ?c1 ?c2 ?c3 ?c4 ?c5 ?_)
          case c1 =>
            intro j u hj
            match j, hj with
            | 0, hj => simp at hj; subst hj; simp [Addr.add]
          case c2 => intro u hu; simp at hu; subst hu; rfl
          case c3 => unfold maxLen; omega
          case c4 => omega
          case c5 => simp; omega
          intro v1 w1 hown1 hgrow1 _
          have hb1 : Below w.heap.size w w1 := (hbw.alloc hbs _).grown hgrow1 (by simp; omega) (fun g hg => (hown.lt g hg).1)
          have hbs1 := hb1.size
          have hown1 : Own w1 w.heap.size v1 (acc ++ [92]) := own_snoc hown1
          have hl1 : (acc ++ [(92 : UInt8)]).length ≤ 2 * k + 1 := by simp; omega
          generalize hac1 : acc ++ [(92 : UInt8)] = acc1 at *
          have HAC1 := Lib.hid hac1
          clear hac1 hown
          go_wp2_with (at_builtin; refine wpList_append_own _ rfl _ _ 37 rfl w.heap.size 5 i0 (.int .u8 0) 1 1 Tryf.underlying37 hi hz0 hz1 hz2 rfl (by decide) _ _ _ rfl (hown1.alloc _) ⟨w1.heap.size, 0, none⟩ 1 1 [.int .u8 63] rfl rfl ?c1 ?c2 ?c3 ?c4 ?c5 ?_)
          case c1 =>
            intro j u hj
            match j, hj with
            | 0, hj => simp at hj; subst hj; simp [Addr.add]
          case c2 => intro u hu; simp at hu; subst hu; rfl
          case c3 => unfold maxLen; omega
          case c4 => omega
          case c5 => simp; omega
          intro v' w2 hown' hgrow _
          go_wp2
          go_roundw
          case rel =>
            refine ⟨k + 1, by omega, by go_num, ?_, (hb1.alloc hbs1 _).grown hgrow (by simp; omega) (fun g hg => (hown1.lt g hg).1)⟩
            have e : rq (s.data.toList.take (k + 1)) = acc1 ++ [s[k]] := by rw [HS.out, rq_snoc, HACC.out, ← HAC1.out]; simp [rq1, HM.out]
            rw [e]
            refine own_snoc ?_
            rw [HV.out]
            exact hown'
          case measure => simp [intOf]; omega
        · have HV := Lib.hid hv
          have hvi : (s[k].toNat : Int) = 40 := by omega
          clear hv
          go_wp2_with (at_builtin; refine wpList_append_own _ rfl _ _ 37 rfl w.heap.size 5 i0 (.int .u8 0) 1 1 Tryf.underlying37 hi hz0 hz1 hz2 rfl (by decide) _ _ _ rfl (hown.alloc _) ⟨wr.heap.size, 0, none⟩ 1 1 [.int .u8 92] rfl rfl ?c1 ?c2 ?c3 ?c4 ?c5 ?_)
          case c1 =>
            intro j u hj
            match j, hj with
            | 0, hj => simp at hj; subst hj; simp [Addr.add]
          case c2 => intro u hu; simp at hu; subst hu; rfl
          case c3 => unfold maxLen; omega
          case c4 => omega
          case c5 => simp; omega
          intro v1 w1 hown1 hgrow1 _
          have hb1 : Below w.heap.size w w1 := (hbw.alloc hbs _).grown hgrow1 (by simp; omega) (fun g hg => (hown.lt g hg).1)
          have hbs1 := hb1.size
          have hown1 : Own w1 w.heap.size v1 (acc ++ [92]) := own_snoc hown1
          have hl1 : (acc ++ [(92 : UInt8)]).length ≤ 2 * k + 1 := by simp; omega
          generalize hac1 : acc ++ [(92 : UInt8)] = acc1 at *
          have HAC1 := Lib.hid hac1
          clear hac1 hown
          go_wp2_with (at_builtin; refine wpList_append_own _ rfl _ _ 37 rfl w.heap.size 5 i0 (.int .u8 0) 1 1 Tryf.underlying37 hi hz0 hz1 hz2 rfl (by decide) _ _ _ rfl (hown1.alloc _) ⟨w1.heap.size, 0, none⟩ 1 1 [.int .u8 40] rfl rfl ?c1 ?c2 ?c3 ?c4 ?c5 ?_)
          case c1 =>
            intro j u hj
            match j, hj with
            | 0, hj => simp at hj; subst hj; simp [Addr.add]
          case c2 => intro u hu; simp at hu; subst hu; rfl
          case c3 => unfold maxLen; omega
          case c4 => omega
          case c5 => simp; omega
          intro v' w2 hown' hgrow _
          go_wp2
          go_roundw
          case rel =>
            refine ⟨k + 1, by omega, by go_num, ?_, (hb1.alloc hbs1 _).grown hgrow (by simp; omega) (fun g hg => (hown1.lt g hg).1)⟩
            have e : rq (s.data.toList.take (k + 1)) = acc1 ++ [s[k]] := by rw [HS.out, rq_snoc, HACC.out, ← HAC1.out]; simp [rq1, HM.out]
            rw [e]
            refine own_snoc ?_
            rw [HV.out]
            exact hown'
          case measure => simp [intOf]; omega
        · have HV := Lib.hid hv
          have hvi : (s[k].toNat : Int) = 41 := by omega
          clear hv
          go_wp2_with (at_builtin; refine wpList_append_own _ rfl _ _ 37 rfl w.heap.size 5 i0 (.int .u8 0) 1 1 Tryf.underlying37 hi hz0 hz1 hz2 rfl (by decide) _ _ _ rfl (hown.alloc _) ⟨wr.heap.size, 0, none⟩ 1 1 [.int .u8 92] rfl rfl ?c1 ?c2 ?c3 ?c4 ?c5 ?_)
          case c1 =>
            intro j u hj
            match j, hj with
            | 0, hj => simp at hj; subst hj; simp [Addr.add]
          case c2 => intro u hu; simp at hu; subst hu; rfl
          case c3 => unfold maxLen; omega
          case c4 => omega
          case c5 => simp; omega
          intro v1 w1 hown1 hgrow1 _
          have hb1 : Below w.heap.size w w1 := (hbw.alloc hbs _).grown hgrow1 (by simp; omega) (fun g hg => (hown.lt g hg).1)
          have hbs1 := hb1.size
          have hown1 : Own w1 w.heap.size v1 (acc ++ [92]) := own_snoc hown1
          have hl1 : (acc ++ [(92 : UInt8)]).length ≤ 2 * k + 1 := by simp; omega
          generalize hac1 : acc ++ [(92 : UInt8)] = acc1 at *
          have HAC1 := Lib.hid hac1
          clear hac1 hown
          go_wp2_with (at_builtin; refine wpList_append_own _ rfl _ _ 37 rfl w.heap.size 5 i0 (.int .u8 0) 1 1 Tryf.underlying37 hi hz0 hz1 hz2 rfl (by decide) _ _ _ rfl (hown1.alloc _) ⟨w1.heap.size, 0, none⟩ 1 1 [.int .u8 41] rfl rfl ?c1 ?c2 ?c3 ?c4 ?c5 ?_)
          case c1 =>
            intro j u hj
            match j, hj with
            | 0, hj => simp at hj; subst hj; simp [Addr.add]
          case c2 => intro u hu; simp at hu; subst hu; rfl
          case c3 => unfold maxLen; omega
          case c4 => omega
          case c5 => simp; omega
          intro v' w2 hown' hgrow _
          go_wp2
          go_roundw
          case rel =>
            refine ⟨k + 1, by omega, by go_num, ?_, (hb1.alloc hbs1 _).grown hgrow (by simp; omega) (fun g hg => (hown1.lt g hg).1)⟩
            have e : rq (s.data.toList.take (k + 1)) = acc1 ++ [s[k]] := by rw [HS.out, rq_snoc, HACC.out, ← HAC1.out]; simp [rq1, HM.out]
            rw [e]
            refine own_snoc ?_
            rw [HV.out]
            exact hown'
          case measure => simp [intOf]; omega
        · have HV := Lib.hid hv
          have hvi : (s[k].toNat : Int) = 124 := by omega
          clear hv
          go_wp2_with (at_builtin; refine wpList_append_own _ rfl _ _ 37 rfl w.heap.size 5 i0 (.int .u8 0) 1 1 Tryf.underlying37 hi hz0 hz1 hz2 rfl (by decide) _ _ _ rfl (hown.alloc _) ⟨wr.heap.size, 0, none⟩ 1 1 [.int .u8 92] rfl rfl ?c1 ?c2 ?c3 ?c4 ?c5 ?_)
          case c1 =>
            intro j u hj
            match j, hj with
            | 0, hj => simp at hj; subst hj; simp [Addr.add]
          case c2 => intro u hu; simp at hu; subst hu; rfl
          case c3 => unfold maxLen; omega
          case c4 => omega
          case c5 => simp; omega
          intro v1 w1 hown1 hgrow1 _
          have hb1 : Below w.heap.size w w1 := (hbw.alloc hbs _).grown hgrow1 (by simp; omega) (fun g hg => (hown.lt g hg).1)
          have hbs1 := hb1.size
          have hown1 : Own w1 w.heap.size v1 (acc ++ [92]) := own_snoc hown1
          have hl1 : (acc ++ [(92 : UInt8)]).length ≤ 2 * k + 1 := by simp; omega
          generalize hac1 : acc ++ [(92 : UInt8)] = acc1 at *
          have HAC1 := Lib.hid hac1
          clear hac1 hown
          go_wp2_with (at_builtin; refine wpList_append_own _ rfl _ _ 37 rfl w.heap.size 5 i0 (.int .u8 0) 1 1 Tryf.underlying37 hi hz0 hz1 hz2 rfl (by decide) _ _ _ rfl (hown1.alloc _) ⟨w1.heap.size, 0, none⟩ 1 1 [.int .u8 124] rfl rfl ?c1 ?c2 ?c3 ?c4 ?c5 ?_)
          case c1 =>
            intro j u hj
            match j, hj with
            | 0, hj => simp at hj; subst hj; simp [Addr.add]
          case c2 => intro u hu; simp at hu; subst hu; rfl
          case c3 => unfold maxLen; omega
          case c4 => omega
          case c5 => simp; omega
          intro v' w2 hown' hgrow _
          go_wp2
          go_roundw
          case rel =>
            refine ⟨k + 1, by omega, by go_num, ?_, (hb1.alloc hbs1 _).grown hgrow (by simp; omega) (fun g hg => (hown1.lt g hg).1)⟩
            have e : rq (s.data.toList.take (k + 1)) = acc1 ++ [s[k]] := by rw [HS.out, rq_snoc, HACC.out, ← HAC1.out]; simp [rq1, HM.out]
            rw [e]
            refine own_snoc ?_
            rw [HV.out]
            exact hown'
          case measure => simp [intOf]; omega
        · have HV := Lib.hid hv
          have hvi : (s[k].toNat : Int) = 91 := by omega
          clear hv
          go_wp2_with (at_builtin; refine wpList_append_own _ rfl _ _ 37 rfl w.heap.size 5 i0 (.int .u8 0) 1 1 Tryf.underlying37 hi hz0 hz1 hz2 rfl (by decide) _ _ _ rfl (hown.alloc _) ⟨wr.heap.size, 0, none⟩ 1 1 [.int .u8 92] rfl rfl ?c1 ?c2 ?c3 ?c4 ?c5 ?_)
          case c1 =>
            intro j u hj
            match j, hj with
            | 0, hj => simp at hj; subst hj; simp [Addr.add]
          case c2 => intro u hu; simp at hu; subst hu; rfl
          case c3 => unfold maxLen; omega
          case c4 => omega
          case c5 => simp; omega
          intro v1 w1 hown1 hgrow1 _
          have hb1 : Below w.heap.size w w1 := (hbw.alloc hbs _).grown hgrow1 (by simp; omega) (fun g hg => (hown.lt g hg).1)
          have hbs1 := hb1.size
          have hown1 : Own w1 w.heap.size v1 (acc ++ [92]) := own_snoc hown1
          have hl1 : (acc ++ [(92 : UInt8)]).length ≤ 2 * k + 1 := by simp; omega
          generalize hac1 : acc ++ [(92 : UInt8)] = acc1 at *
          have HAC1 := Lib.hid hac1
          clear hac1 hown
          go_wp2_with (at_builtin; refine wpList_append_own _ rfl _ _ 37 rfl w.heap.size 5 i0 (.int .u8 0) 1 1 Tryf.underlying37 hi hz0 hz1 hz2 rfl (by decide) _ _ _ rfl (hown1.alloc _) ⟨w1.heap.size, 0, none⟩ 1 1 [.int .u8 91] rfl rfl ?c1 ?c2 ?c3 ?c4 ?c5 ?_)
          case c1 =>
            intro j u hj
            match j, hj with
            | 0, hj => simp at hj; subst hj; simp [Addr.add]
          case c2 => intro u hu; simp at hu; subst hu; rfl
          case c3 => unfold maxLen; omega
          case c4 => omega
          case c5 => simp; omega
          intro v' w2 hown' hgrow _
          go_wp2
          go_roundw
          case rel =>
            refine ⟨k + 1, by omega, by go_num, ?_, (hb1.alloc hbs1 _).grown hgrow (by simp; omega) (fun g hg => (hown1.lt g hg).1)⟩
            have e : rq (s.data.toList.take (k + 1)) = acc1 ++ [s[k]] := by rw [HS.out, rq_snoc, HACC.out, ← HAC1.out]; simp [rq1, HM.out]
            rw [e]
            refine own_snoc ?_
            rw [HV.out]
            exact hown'
          case measure => simp [intOf]; omega
        · have HV := Lib.hid hv
          have hvi : (s[k].toNat : Int) = 93 := by omega
          clear hv
          go_wp2_with (at_builtin; refine wpList_append_own _ rfl _ _ 37 rfl w.heap.size 5 i0 (.int .u8 0) 1 1 Tryf.underlying37 hi hz0 hz1 hz2 rfl (by decide) _ _ _ rfl (hown.alloc _) ⟨wr.heap.size, 0, none⟩ 1 1 [.int .u8 92] rfl rfl ?c1 ?c2 ?c3 ?c4 ?c5 ?_)
          case c1 =>
            intro j u hj
            match j, hj with
            | 0, hj => simp at hj; subst hj; simp [Addr.add]
          case c2 => intro u hu; simp at hu; subst hu; rfl
          case c3 => unfold maxLen; omega
          case c4 => omega
          case c5 => simp; omega
          intro v1 w1 hown1 hgrow1 _
          have hb1 : Below w.heap.size w w1 := (hbw.alloc hbs _).grown hgrow1 (by simp; omega) (fun g hg => (hown.lt g hg).1)
          have hbs1 := hb1.size
          have hown1 : Own w1 w.heap.size v1 (acc ++ [92]) := own_snoc hown1
          have hl1 : (acc ++ [(92 : UInt8)]).length ≤ 2 * k + 1 := by simp; omega
          generalize hac1 : acc ++ [(92 : UInt8)] = acc1 at *
          have HAC1 := Lib.hid hac1
          clear hac1 hown
          go_wp2_with (at_builtin; refine wpList_append_own _ rfl _ _ 37 rfl w.heap.size 5 i0 (.int .u8 0) 1 1 Tryf.underlying37 hi hz0 hz1 hz2 rfl (by decide) _ _ _ rfl (hown1.alloc _) ⟨w1.heap.size, 0, none⟩ 1 1 [.int .u8 93] rfl rfl ?c1 ?c2 ?c3 ?c4 ?c5 ?_)
          case c1 =>
            intro j u hj
            match j, hj with
            | 0, hj => simp at hj; subst hj; simp [Addr.add]
          case c2 => intro u hu; simp at hu; subst hu; rfl
          case c3 => unfold maxLen; omega
          case c4 => omega
          case c5 => simp; omega
          intro v' w2 hown' hgrow _
          go_wp2
          go_roundw
          case rel =>
            refine ⟨k + 1, by omega, by go_num, ?_, (hb1.alloc hbs1 _).grown hgrow (by simp; omega) (fun g hg => (hown1.lt g hg).1)⟩
            have e : rq (s.data.toList.take (k + 1)) = acc1 ++ [s[k]] := by rw [HS.out, rq_snoc, HACC.out, ← HAC1.out]; simp [rq1, HM.out]
            rw [e]
            refine own_snoc ?_
            rw [HV.out]
            exact hown'
          case measure => simp [intOf]; omega
        · have HV := Lib.hid hv
          have hvi : (s[k].toNat : Int) = 123 := by omega
          clear hv
          go_wp2_with (at_builtin; refine wpList_append_own _ rfl _ _ 37 rfl w.heap.size 5 i0 (.int .u8 0) 1 1 Tryf.underlying37 hi hz0 hz1 hz2 rfl (by decide) _ _ _ rfl (hown.alloc _) ⟨wr.heap.size, 0, none⟩ 1 1 [.int .u8 92] rfl rfl ?c1 ?c2 ?c3 ?c4 ?c5 ?_)
          case c1 =>
            intro j u hj
            match j, hj with
            | 0, hj => simp at hj; subst hj; simp [Addr.add]
          case c2 => intro u hu; simp at hu; subst hu; rfl
          case c3 => unfold maxLen; omega
          case c4 => omega
          case c5 => simp; omega
          intro v1 w1 hown1 hgrow1 _
          have hb1 : Below w.heap.size w w1 := (hbw.alloc hbs _).grown hgrow1 (by simp; omega) (fun g hg => (hown.lt g hg).1)
          have hbs1 := hb1.size
          have hown1 : Own w1 w.heap.size v1 (acc ++ [92]) := own_snoc hown1
          have hl1 : (acc ++ [(92 : UInt8)]).length ≤ 2 * k + 1 := by simp; omega
          generalize hac1 : acc ++ [(92 : UInt8)] = acc1 at *
          have HAC1 := Lib.hid hac1
          clear hac1 hown
          go_wp2_with (at_builtin; refine wpList_append_own _ rfl _ _ 37 rfl w.heap.size 5 i0 (.int .u8 0) 1 1 Tryf.underlying37 hi hz0 hz1 hz2 rfl (by decide) _ _ _ rfl (hown1.alloc _) ⟨w1.heap.size, 0, none⟩ 1 1 [.int .u8 123] rfl rfl ?c1 ?c2 ?c3 ?c4 ?c5 ?_)
          case c1 =>
            intro j u hj
            match j, hj with
            | 0, hj => simp at hj; subst hj; simp [Addr.add]
          case c2 => intro u hu; simp at hu; subst hu; rfl
          case c3 => unfold maxLen; omega
          case c4 => omega
          case c5 => simp; omega
          intro v' w2 hown' hgrow _
          go_wp2
          go_roundw
          case rel =>
            refine ⟨k + 1, by omega, by go_num, ?_, (hb1.alloc hbs1 _).grown hgrow (by simp; omega) (fun g hg => (hown1.lt g hg).1)⟩
            have e : rq (s.data.toList.take (k + 1)) = acc1 ++ [s[k]] := by rw [HS.out, rq_snoc, HACC.out, ← HAC1.out]; simp [rq1, HM.out]
            rw [e]
            refine own_snoc ?_
            rw [HV.out]
            exact hown'
          case measure => simp [intOf]; omega
        · have HV := Lib.hid hv
          have hvi : (s[k].toNat : Int) = 125 := by omega
          clear hv
          go_wp2_with (at_builtin; refine wpList_append_own _ rfl _ _ 37 rfl w.heap.size 5 i0 (.int .u8 0) 1 1 Tryf.underlying37 hi hz0 hz1 hz2 rfl (by decide) _ _ _ rfl (hown.alloc _) ⟨wr.heap.size, 0, none⟩ 1 1 [.int .u8 92] rfl rfl ?c1 ?c2 ?c3 ?c4 ?c5 ?_)
          case c1 =>
            intro j u hj
            match j, hj with
            | 0, hj => simp at hj; subst hj; simp [Addr.add]
          case c2 => intro u hu; simp at hu; subst hu; rfl
          case c3 => unfold maxLen; omega
          case c4 => omega
          case c5 => simp; omega
          intro v1 w1 hown1 hgrow1 _
          have hb1 : Below w.heap.size w w1 := (hbw.alloc hbs _).grown hgrow1 (by simp; omega) (fun g hg => (hown.lt g hg).1)
          have hbs1 := hb1.size
          have hown1 : Own w1 w.heap.size v1 (acc ++ [92]) := own_snoc hown1
          have hl1 : (acc ++ [(92 : UInt8)]).length ≤ 2 * k + 1 := by simp; omega
          generalize hac1 : acc ++ [(92 : UInt8)] = acc1 at *
          have HAC1 := Lib.hid hac1
          clear hac1 hown
          go_wp2_with (at_builtin; refine wpList_append_own _ rfl _ _ 37 rfl w.heap.size 5 i0 (.int .u8 0) 1 1 Tryf.underlying37 hi hz0 hz1 hz2 rfl (by decide) _ _ _ rfl (hown1.alloc _) ⟨w1.heap.size, 0, none⟩ 1 1 [.int .u8 125] rfl rfl ?c1 ?c2 ?c3 ?c4 ?c5 ?_)
          case c1 =>
            intro j u hj
            match j, hj with
            | 0, hj => simp at hj; subst hj; simp [Addr.add]
          case c2 => intro u hu; simp at hu; subst hu; rfl
          case c3 => unfold maxLen; omega
          case c4 => omega
          case c5 => simp; omega
          intro v' w2 hown' hgrow _
          go_wp2
          go_roundw
          case rel =>
            refine ⟨k + 1, by omega, by go_num, ?_, (hb1.alloc hbs1 _).grown hgrow (by simp; omega) (fun g hg => (hown1.lt g hg).1)⟩
            have e : rq (s.data.toList.take (k + 1)) = acc1 ++ [s[k]] := by rw [HS.out, rq_snoc, HACC.out, ← HAC1.out]; simp [rq1, HM.out]
            rw [e]
            refine own_snoc ?_
            rw [HV.out]
            exact hown'
          case measure => simp [intOf]; omega
        · have HV := Lib.hid hv
          have hvi : (s[k].toNat : Int) = 94 := by omega
          clear hv
          go_wp2_with (at_builtin; refine wpList_append_own _ rfl _ _ 37 rfl w.heap.size 5 i0 (.int .u8 0) 1 1 Tryf.underlying37 hi hz0 hz1 hz2 rfl (by decide) _ _ _ rfl (hown.alloc _) ⟨wr.heap.size, 0, none⟩ 1 1 [.int .u8 92] rfl rfl ?c1 ?c2 ?c3 ?c4 ?c5 ?_)
          case c1 =>
            intro j u hj
            match j, hj with
            | 0, hj => simp at hj; subst hj; simp [Addr.add]
          case c2 => intro u hu; simp at hu; subst hu; rfl
          case c3 => unfold maxLen; omega
          case c4 => omega
          case c5 => simp; omega
          intro v1 w1 hown1 hgrow1 _
          have hb1 : Below w.heap.size w w1 := (hbw.alloc hbs _).grown hgrow1 (by simp; omega) (fun g hg => (hown.lt g hg).1)
          have hbs1 := hb1.size
          have hown1 : Own w1 w.heap.size v1 (acc ++ [92]) := own_snoc hown1
          have hl1 : (acc ++ [(92 : UInt8)]).length ≤ 2 * k + 1 := by simp; omega
          generalize hac1 : acc ++ [(92 : UInt8)] = acc1 at *
          have HAC1 := Lib.hid hac1
          clear hac1 hown
          go_wp2_with (at_builtin; refine wpList_append_own _ rfl _ _ 37 rfl w.heap.size 5 i0 (.int .u8 0) 1 1 Tryf.underlying37 hi hz0 hz1 hz2 rfl (by decide) _ _ _ rfl (hown1.alloc _) ⟨w1.heap.size, 0, none⟩ 1 1 [.int .u8 94] rfl rfl ?c1 ?c2 ?c3 ?c4 ?c5 ?_)
          case c1 =>
            intro j u hj
            match j, hj with
            | 0, hj => simp at hj; subst hj; simp [Addr.add]
          case c2 => intro u hu; simp at hu; subst hu; rfl
          case c3 => unfold maxLen; omega
          case c4 => omega
          case c5 => simp; omega
          intro v' w2 hown' hgrow _
          go_wp2
          go_roundw
          case rel =>
            refine ⟨k + 1, by omega, by go_num, ?_, (hb1.alloc hbs1 _).grown hgrow (by simp; omega) (fun g hg => (hown1.lt g hg).1)⟩
            have e : rq (s.data.toList.take (k + 1)) = acc1 ++ [s[k]] := by rw [HS.out, rq_snoc, HACC.out, ← HAC1.out]; simp [rq1, HM.out]
            rw [e]
            refine own_snoc ?_
            rw [HV.out]
            exact hown'
          case measure => simp [intOf]; omega
        · have HV := Lib.hid hv
          have hvi : (s[k].toNat : Int) = 36 := by omega
          clear hv
          go_wp2_with (at_builtin; refine wpList_append_own _ rfl _ _ 37 rfl w.heap.size 5 i0 (.int .u8 0) 1 1 Tryf.underlying37 hi hz0 hz1 hz2 rfl (by decide) _ _ _ rfl (hown.alloc _) ⟨wr.heap.size, 0, none⟩ 1 1 [.int .u8 92] rfl rfl ?c1 ?c2 ?c3 ?c4 ?c5 ?_)
          case c1 =>
            intro j u hj
            match j, hj with
            | 0, hj => simp at hj; subst hj; simp [Addr.add]
          case c2 => intro u hu; simp at hu; subst hu; rfl
          case c3 => unfold maxLen; omega
          case c4 => omega
          case c5 => simp; omega
          intro v1 w1 hown1 hgrow1 _
          have hb1 : Below w.heap.size w w1 := (hbw.alloc hbs _).grown hgrow1 (by simp; omega) (fun g hg => (hown.lt g hg).1)
          have hbs1 := hb1.size
          have hown1 : Own w1 w.heap.size v1 (acc ++ [92]) := own_snoc hown1
          have hl1 : (acc ++ [(92 : UInt8)]).length ≤ 2 * k + 1 := by simp; omega
          generalize hac1 : acc ++ [(92 : UInt8)] = acc1 at *
          have HAC1 := Lib.hid hac1
          clear hac1 hown
          go_wp2_with (at_builtin; refine wpList_append_own _ rfl _ _ 37 rfl w.heap.size 5 i0 (.int .u8 0) 1 1 Tryf.underlying37 hi hz0 hz1 hz2 rfl (by decide) _ _ _ rfl (hown1.alloc _) ⟨w1.heap.size, 0, none⟩ 1 1 [.int .u8 36] rfl rfl ?c1 ?c2 ?c3 ?c4 ?c5 ?_)
          case c1 =>
            intro j u hj
            match j, hj with
            | 0, hj => simp at hj; subst hj; simp [Addr.add]
          case c2 => intro u hu; simp at hu; subst hu; rfl
          case c3 => unfold maxLen; omega
          case c4 => omega
          case c5 => simp; omega
          intro v' w2 hown' hgrow _
          go_wp2
          go_roundw
          case rel =>
            refine ⟨k + 1, by omega, by go_num, ?_, (hb1.alloc hbs1 _).grown hgrow (by simp; omega) (fun g hg => (hown1.lt g hg).1)⟩
            have e : rq (s.data.toList.take (k + 1)) = acc1 ++ [s[k]] := by rw [HS.out, rq_snoc, HACC.out, ← HAC1.out]; simp [rq1, HM.out]
            rw [e]
            refine own_snoc ?_
            rw [HV.out]
            exact hown'
          case measure => simp [intOf]; omega
    · have hl := Pat.take_all s k (by omega)
      rw [hl] at hown
      generalize hacc : rq s.data.toList = acc at *
      have HACC := Lib.hid hacc
      clear hacc
      rcases hown.2 with ⟨rfl, h0⟩ | ⟨g, cap, cur, rfl, hbg, hg, hfz, hcc, hcs, htake⟩
      · have hnil : acc = [] := List.length_eq_zero_iff.1 h0
        subst hnil
        have hcv := fun (w : World) (c : Nat) => Lib.run_convert_nil_bytes (P := Tryf.prog) w 37 9 5 c Tryf.underlying37 Tryf.underlying5 Tryf.underlying9
        go_wp2
        go_ret
        exact ⟨by rw [HACC.out]; rfl, hbw⟩
      · have hcv := run_convert_bytes_back (P := Tryf.prog) wr 37 9 5 ⟨g, 0, none⟩ cap acc Tryf.underlying37 Tryf.underlying5 Tryf.underlying9 (fun j hj => by
          refine hown.cells (g := g) rfl j _ ?_
          simp [Lib.byteCells, List.getElem?_eq_getElem hj])
        clear hown hg hfz hcs htake
        go_wp2
        go_ret
        exact ⟨by rw [HACC.out]; rfl, hbw⟩
end Go.Proofs.YtjoefmnkbcoblaaFmt

/- PLAIN: what regexpNext computes, as a Lean function (no program in sight but the lexer's decode). -/
namespace Go.Proofs.YtjoefmnkbcoblaaFmt
open Go.RowKit Go.Extern
set_option linter.unusedVariables false

/-- the bytes of a rune -/
def bytesOf (b : ByteArray) : List UInt8 := b.data.toList
theorem bytesOf_eq (b : ByteArray) : bytesOf b = b.data.toList := rfl
def en (r : Nat) : List UInt8 := bytesOf (Utf8.encode (r : Int))
theorem en_def (r : Nat) : en r = bytesOf (Utf8.encode (r : Int)) := rfl
/-- the mode's flags -/
structure Md where
  ext : Bool
  fil : Bool
  ngs : Bool
  dot : Bool
/-- err: 0 none, 1 EOF, 2 a group that is not to be matched (its start: st), 3 a fault of form; the place; what is written -/
structure Res where
  err : Nat
  st : Nat
  i : Nat
  out : List UInt8
structure Br where
  c : Nat
  i : Nat
  bs : List UInt8
  sl : Bool
  de : Bool
  ce : Bool

def adv (s : ByteArray) (t : Br) : Br := { t with c := (nx s t.i).1, i := (nx s t.i).2 }
def brEsc (fil : Bool) (t : Br) (c i : Nat) : Br :=
  if c = 45 then { t with bs := t.bs ++ [92, 45], i := i }
  else if 128 < c then { t with bs := t.bs ++ en c, i := i }
  else { t with bs := t.bs ++ rq (en c), i := i, sl := t.sl || (fil && c == 47) }
def brDash (s : ByteArray) (t : Br) : Br :=
  { t with bs := t.bs ++ [45], de := t.de || ((nx s t.i).1 != 93 && decide ((nx s t.i).1 < lastR s t.i)) }
def brOpen (fil : Bool) (s : ByteArray) (t : Br) : Br :=
  { t with bs := t.bs ++ 91 :: (s.extract t.i (t.i + (cc (s.extract t.i s.size).data.toList).1)).data.toList, i := t.i + (cc (s.extract t.i s.size).data.toList).1,
           ce := t.ce || (cc (s.extract t.i s.size).data.toList).2, de := t.de || (cc (s.extract t.i s.size).data.toList).2,
           sl := t.sl || (fil && (idx (s.extract t.i (t.i + (cc (s.extract t.i s.size).data.toList).1)).data.toList [47]).isSome) }
def brDef (fil : Bool) (t : Br) : Br := { t with bs := t.bs ++ en t.c, sl := t.sl || (fil && t.c == 47) }
def litB (lit : Nat) : Res := ⟨0, 0, lit, [92, 91]⟩

def brL (fil : Bool) (s : ByteArray) (lit : Nat) : Nat → Br → Res
  | 0, _ => litB lit
  | f + 1, t =>
    if t.c = 0 then (if t.ce then ⟨3, 0, t.i, []⟩ else litB lit)
    else if t.c = 92 then
      (if (nx s t.i).1 = 0 then brL fil s lit f { t with c := 0, i := (nx s t.i).2 } else brL fil s lit f (adv s (brEsc fil t (nx s t.i).1 (nx s t.i).2)))
    else if t.c = 45 then brL fil s lit f (adv s (brDash s t))
    else if t.c = 93 then (if t.sl then ⟨0, 0, t.i, rq (s.extract (lit - 1) t.i).data.toList⟩ else if t.de then ⟨3, 0, t.i, []⟩ else ⟨0, 0, t.i, t.bs ++ [93]⟩)
    else if t.c = 91 then brL fil s lit f (adv s (brOpen fil s t))
    else brL fil s lit f (adv s (brDef fil t))

def need (s : ByteArray) (t : Br) : Nat := 2 * (s.size - t.i) + (if t.c = 0 then 0 else 1)
def br3 (fil : Bool) (s : ByteArray) (lit c i : Nat) (bs : List UInt8) : Res := brL fil s lit (need s ⟨c, i, bs, false, false, false⟩ + 1) ⟨c, i, bs, false, false, false⟩
def br2 (fil : Bool) (s : ByteArray) (lit c i : Nat) (bs : List UInt8) : Res :=
  if c = 93 then (if (nx s i).1 = 0 then litB lit else br3 fil s lit (nx s i).1 (nx s i).2 (bs ++ [93])) else br3 fil s lit c i bs
def br1 (fil : Bool) (s : ByteArray) (lit c i : Nat) : Res :=
  if c = 33 ∨ c = 94 then (if (nx s i).1 = 0 then litB lit else br2 fil s lit (nx s i).1 (nx s i).2 [91, 94]) else br2 fil s lit c i [91]
def brk (fil : Bool) (s : ByteArray) (lit : Nat) : Res :=
  if (nx s lit).1 = 0 then litB lit else br1 fil s lit (nx s lit).1 (nx s lit).2

def dotstar : List UInt8 := [46, 42]
def stTail (md : Md) (sbef : Bool) : List UInt8 := if sbef && !md.dot then [40, 91, 94, 47, 46, 93, 91, 94, 47, 93, 42, 41, 63] else [91, 94, 47, 93, 42]
def stSlash (md : Md) : List UInt8 := if md.dot then dotstar else [40, 47, 124, 91, 94, 47, 46, 93, 91, 94, 47, 93, 42, 41, 42]
def star2 (md : Md) (s : ByteArray) (j : Nat) (sbef : Bool) : Res :=
  if !md.ngs && sbef && (j == s.size || (nx s j).1 == 47) then
    (if (nx s j).1 = 47 then ⟨0, 0, j + 1, 40 :: (stSlash md ++ [47, 41, 63])⟩ else ⟨0, 0, j, stSlash md⟩)
  else ⟨0, 0, j, stTail md sbef⟩
def star (md : Md) (s : ByteArray) (i : Nat) : Res :=
  if md.fil then
    (if (nx s i).1 = 42 then star2 md s (i + 1) (i == 1 || lastR s i == 47) else ⟨0, 0, i, stTail md (i == 1 || lastR s i == 47)⟩)
  else ⟨0, 0, i, dotstar⟩

def rest (md : Md) (s : ByteArray) (c i : Nat) : Res :=
  if c = 0 then ⟨1, 0, i, []⟩
  else if c = 42 then star md s i
  else if c = 63 then ⟨0, 0, i, if md.fil then [91, 94, 47, 93] else [46]⟩
  else if c = 92 then (if (nx s i).1 = 0 then ⟨3, 0, (nx s i).2, []⟩ else ⟨0, 0, (nx s i).2, rq (en (nx s i).1)⟩)
  else if c = 91 then brk md.fil s i
  else if 128 < c then ⟨0, 0, i, en c⟩ else ⟨0, 0, i, rq (en c)⟩

inductive Grp where
  | opened
  | err (r : Res)
  | closed (j : Nat) (acc : List UInt8)
def grp (nxt : Nat → Res) (s : ByteArray) : Nat → Nat → List UInt8 → Grp
  | 0, _, _ => .opened
  | f + 1, j, acc =>
    if (nx s j).1 = 41 then .closed j acc
    else if (nx s j).1 = 124 then grp nxt s f (nx s j).2 (acc ++ [124])
    else if (nx s j).1 = 0 then .opened
    else if (nxt j).err = 0 then grp nxt s f (nxt j).i (acc ++ (nxt j).out) else .err (nxt j)
def isOp (c : Nat) : Bool := c == 33 || c == 63 || c == 42 || c == 43 || c == 64
def closeG (s : ByteArray) (c st j : Nat) (acc : List UInt8) : Res :=
  if c = 33 then ⟨2, st, (nx s j).2, acc ++ [41]⟩ else if c = 64 then ⟨0, 0, (nx s j).2, acc ++ [41]⟩ else ⟨0, 0, (nx s j).2, acc ++ [41] ++ en c⟩
def next (md : Md) (s : ByteArray) : Nat → Nat → Res
  | 0, i => ⟨0, 0, i, []⟩
  | f + 1, i =>
    if md.ext && isOp (nx s i).1 && (nx s (nx s i).2).1 == 40 then
      (match grp (next md s f) s (s.size + 1) (nx s (nx s i).2).2 [40] with
       | .opened => rest md s (nx s i).1 (nx s i).2
       | .err r => { r with out := [] }
       | .closed j acc => closeG s (nx s i).1 ((nx s i).2 - 1) j acc)
    else rest md s (nx s i).1 (nx s i).2

theorem en_cells (r : Nat) : Lib.runeCells (r : Int) = Lib.byteCells (en r) := by
  have e := FmtText.encode_eq r
  unfold Lib.runeCells Lib.byteCells
  rw [← e, en_def, bytesOf_eq]
  generalize (Utf8.encode (r : Int)).data.toList = l
  simp [FmtText.nums]
theorem en_len (r : Nat) : 1 ≤ (en r).length ∧ (en r).length ≤ 4 := by
  have := Lib.runeCells_le (r : Int)
  rw [en_cells] at this
  simpa [Lib.byteCells] using this
theorem en_small (r : Nat) (h : r < 128) : en r = [UInt8.ofNat r] := by rw [en_def, bytesOf_eq, FmtText.enc1 r h]

theorem dec_bounds (s : ByteArray) (i : Nat) : 1 ≤ (Utf8.decode s i).2 ∧ (Utf8.decode s i).1 ≤ 1114111 ∧ ((Utf8.decode s i).1 < 128 → (Utf8.decode s i).2 = 1) ∧ (i < s.size → i + (Utf8.decode s i).2 ≤ s.size) := by
  unfold Utf8.decode
  dsimp only
  have hr : Utf8.runeError = 65533 := rfl
  split
  · rename_i h; refine ⟨by simp, ?_, ?_, ?_⟩ <;> dsimp only <;> omega
  split
  · rename_i h0 h
    simp only [Bool.and_eq_true, decide_eq_true_eq, beq_iff_eq] at h
    split
    · rename_i h2; refine ⟨by simp, ?_, ?_, ?_⟩ <;> dsimp only <;> omega
    · refine ⟨by simp, ?_, ?_, ?_⟩ <;> dsimp only <;> omega
  split
  · rename_i h0 h1 h
    simp only [Bool.and_eq_true, decide_eq_true_eq, beq_iff_eq] at h
    split
    · rename_i h2
      simp only [Bool.and_eq_true, decide_eq_true_eq, Utf8.valid, Bool.or_eq_true] at h2
      refine ⟨by simp, ?_, ?_, ?_⟩ <;> dsimp only <;> omega
    · refine ⟨by simp, ?_, ?_, ?_⟩ <;> dsimp only <;> omega
  split
  · rename_i h0 h1 h3 h
    simp only [Bool.and_eq_true, decide_eq_true_eq, beq_iff_eq] at h
    split
    · rename_i h2
      simp only [Bool.and_eq_true, decide_eq_true_eq, Utf8.valid, Bool.or_eq_true] at h2
      refine ⟨by simp, ?_, ?_, ?_⟩ <;> dsimp only <;> omega
    · refine ⟨by simp, ?_, ?_, ?_⟩ <;> dsimp only <;> omega
  · refine ⟨by simp, ?_, ?_, ?_⟩ <;> dsimp only <;> omega
theorem nx_adv (s : ByteArray) (i : Nat) (h : (nx s i).1 ≠ 0) : i < (nx s i).2 ∧ i < s.size := by
  have := dec_bounds s i
  unfold nx at h ⊢
  split
  · rename_i h1; simp only; omega
  · rename_i h1; rw [if_neg h1] at h; simp at h
theorem nx_le (s : ByteArray) (i : Nat) (h : i ≤ s.size) : i ≤ (nx s i).2 ∧ (nx s i).2 ≤ s.size ∧ (nx s i).1 ≤ 1114111 := by
  have := dec_bounds s i
  unfold nx
  split <;> simp only <;> omega
theorem nx_ascii (s : ByteArray) (i : Nat) (h : (nx s i).1 ≠ 0) (h1 : (nx s i).1 < 128) : (nx s i).2 = i + 1 := by
  have := dec_bounds s i
  unfold nx at h h1 ⊢
  split
  · rename_i h2; rw [if_pos h2] at h1; simp only at h1 ⊢; omega
  · rename_i h2; rw [if_neg h2] at h; simp at h
/-- the place goes on -/
theorem nx_cases (s : ByteArray) (i : Nat) (h : i ≤ s.size) : (i = s.size ∧ nx s i = (0, i)) ∨ (i < s.size ∧ i < (nx s i).2 ∧ (nx s i).2 ≤ s.size) := by
  have := dec_bounds s i
  unfold nx
  split
  · right; simp only; omega
  · left; exact ⟨by omega, rfl⟩
end Go.Proofs.YtjoefmnkbcoblaaFmt

/- The state of a walk through regexpNext: the lexer, the builder, the boxes, the tables; how each callee moves it. -/
namespace Go.Proofs.YtjoefmnkbcoblaaFmt
open Go.RowKit Go.Extern.Stop Go.Stop Go.Extern
set_option linter.unusedVariables false

abbrev gE : Nat := 0
abbrev gU : Nat := 4
abbrev gA : Nat := 5
abbrev tPB : TypeId := 64
abbrev tPL : TypeId := 72
/-- above the variables -/
def GG (x : Nat) : Prop := gE < x ∧ gU < x ∧ gA < x
theorem GG.mono {x y : Nat} (h : GG x) (hxy : x ≤ y) : GG y := ⟨by have := h.1; omega, by have := h.2.1; omega, by have := h.2.2; omega⟩

/-- what does not change in a call: laid at a world -/
structure Base (F : Interp) (ls b k3 k4 : Nat) (s : ByteArray) (eof : Value) (w : World) : Prop where
  T : Tabs w
  E : w.cell? ⟨gE, 0, none⟩ = some eof
  c3 : w.heap[k3]? = some (.cells #[.pointer (some ⟨b, 0, none⟩)] tPB (0, 0))
  c4 : w.heap[k4]? = some (.cells #[.pointer (some ⟨ls, 0, none⟩)] tPL (0, 0))
  F : F.answers w.tape
  gl : GG ls
  hs : s.size ≤ 4398046511104

structure St (F : Interp) (B b ls k3 k4 : Nat) (s : ByteArray) (eof : Value) (i : Nat) (acc : List UInt8) (w : World) : Prop where
  base : Base F ls b k3 k4 s eof w
  L : Lx ls s i w
  Bd : IsB B b (Lib.byteCells acc) w
  sz : B ≤ w.heap.size
  gB : GG B
  hi : i ≤ s.size

/-- the blocks that a call may turn -/
def XX (ls B b : Nat) (w : World) (k : Nat) : Prop := k = ls ∨ BX B b w k

theorem Kp.seq {X Y : Nat → Prop} {a b c : World} (h : Kp X a b) (k : Kp Y b c) (hXY : ∀ i, i < a.heap.size → ¬ X i → ¬ Y i) : Kp X a c :=
  ⟨k.os.trans h.os, k.tape.trans h.tape, k.output.trans h.output, Nat.le_trans h.size k.size, fun i hi hx => (k.block i (Nat.lt_of_lt_of_le hi h.size) (hXY i hi hx)).trans (h.block i hi hx)⟩
theorem row_back {X : Nat → Prop} {w0 w : World} (h : Kp X w0 w) {k : Nat} (hk : k < w0.heap.size) (hX : ¬ X k) (hr : ByteRow w k) : ByteRow w0 k := by
  obtain ⟨c, fz, e⟩ := hr
  exact ⟨c, fz, by rw [← h.block k hk hX]; exact e⟩
theorem Kp.XXwrite {ls B b : Nat} {w0 w w' : World} (h : Kp (XX ls B b w0) w0 w) (hf : Frame B b w w') : Kp (XX ls B b w0) w0 w' :=
  h.seq hf.kp fun i hi hx hy => hx (by
    rcases hy with rfl | ⟨hB, hr⟩
    · exact .inr (.inl rfl)
    · exact .inr (.inr ⟨hB, row_back h hi hx hr⟩))
theorem Kp.XXls {ls B b : Nat} {w0 w w' : World} (h : Kp (XX ls B b w0) w0 w) (k : Kp (· = ls) w w') : Kp (XX ls B b w0) w0 w' :=
  h.seq k fun i hi hx hy => hx (.inl hy)
theorem Kp.XXcall {ls B b : Nat} {w0 w w' : World} (h : Kp (XX ls B b w0) w0 w) (k : Kp (XX ls B b w) w w') : Kp (XX ls B b w0) w0 w' :=
  h.seq k fun i hi hx hy => hx (by
    rcases hy with rfl | rfl | ⟨hB, hr⟩
    · exact .inl rfl
    · exact .inr (.inl rfl)
    · exact .inr (.inr ⟨hB, row_back h hi hx hr⟩))
theorem Kp.next {X : Nat → Prop} {a w w' : World} (h : Kp X a w) (k : Below w.heap.size w w') : Kp X a w' := h.trans (.of_below k)
theorem Kp.lsls {ls : Nat} {a w w' : World} (h : Kp (· = ls) a w) (k : Kp (· = ls) w w') : Kp (· = ls) a w' := h.trans k
/-- a write into a builder of new memory -/
theorem Kp.sub {X : Nat → Prop} {B' g : Nat} {a w w' : World} (h : Kp X a w) (hf : Frame B' g w w') (hB : a.heap.size ≤ B') (hg : B' ≤ g) : Kp X a w' :=
  h.seq hf.kp fun i hi hx hy => (by rcases hy with rfl | ⟨hB2, _⟩ <;> omega)
/-- a call upon a builder of new memory -/
theorem Kp.subcall {ls B' g : Nat} {a w w' : World} (h : Kp (· = ls) a w) (k : Kp (XX ls B' g w) w w') (hB : a.heap.size ≤ B') (hg : B' ≤ g) : Kp (· = ls) a w' :=
  h.seq k fun i hi hx hy => (by rcases hy with rfl | rfl | ⟨hB2, _⟩; exact hx rfl; omega; omega)

theorem heap_ne {w : World} {x y : Nat} {c d : Array Value} {t u : TypeId} {f g : Nat × Nat} (hx : w.heap[x]? = some (.cells c t f)) (hy : w.heap[y]? = some (.cells d u g)) (h : t ≠ u) : x ≠ y := by
  rintro rfl
  rw [hx] at hy
  simp only [Option.some.injEq, Obj.cells.injEq] at hy
  exact h hy.2.1

theorem Base.kept {F : Interp} {ls b k3 k4 : Nat} {s : ByteArray} {eof : Value} {w w' : World} {X : Nat → Prop} (h : Base F ls b k3 k4 s eof w) (k : Kp X w w')
    (hE : ¬ X gE) (hU : ¬ X gU) (hA : ¬ X gA) (h3 : ¬ X k3) (h4 : ¬ X k4) : Base F ls b k3 k4 s eof w' where
  T := ⟨fun c hc => k.cell hU (h.T.1 c hc), fun i hi => ⟨k.cell hA (h.T.2 i hi).1, k.cell hA (h.T.2 i hi).2⟩⟩
  E := k.cell hE h.E
  c3 := k.heap h3 h.c3
  c4 := k.heap h4 h.c4
  F := by rw [k.tape]; exact h.F
  gl := h.gl
  hs := h.hs

section
variable {F : Interp} {B b ls k3 k4 : Nat} {s : ByteArray} {eof : Value} {i : Nat} {acc : List UInt8} {w w' : World}
theorem Base.lex (h : Base F ls b k3 k4 s eof w) (hL : Lx ls s i w) (k : Kp (· = ls) w w') : Base F ls b k3 k4 s eof w' :=
  h.kept k (by have := h.gl.1; omega) (by have := h.gl.2.1; omega) (by have := h.gl.2.2; omega) (heap_ne h.c3 hL (by decide)) (heap_ne h.c4 hL (by decide))
theorem Base.below (h : Base F ls b k3 k4 s eof w) (k : Below w.heap.size w w') : Base F ls b k3 k4 s eof w' :=
  h.kept (X := fun _ => False) (.of_below k) id id id id id
theorem St.not_ls (h : St F B b ls k3 k4 s eof i acc w) : b ≠ ls := by
  obtain ⟨_, _, c, hb⟩ := h.Bd.block
  exact heap_ne hb h.L (by decide)
theorem IsB.lex {B b : Nat} {bs : List Value} (h : IsB B b bs w) (hL : Lx ls s i w) (k : Kp (· = ls) w w') : IsB B b bs w' := by
  obtain ⟨_, _, c, hb⟩ := h.block
  exact h.kept k (heap_ne hb hL (by decide)) (fun g _ hr e => not_row hL (by decide) (e ▸ hr))
theorem IsB.below {B b : Nat} {bs : List Value} (h : IsB B b bs w) (k : Below w.heap.size w w') : IsB B b bs w' :=
  h.kept (X := fun _ => False) (.of_below k) id (fun _ _ _ => id)
theorem St.lex {j : Nat} (h : St F B b ls k3 k4 s eof i acc w) (hL : Lx ls s j w') (hj : j ≤ s.size) (k : Kp (· = ls) w w') : St F B b ls k3 k4 s eof j acc w' :=
  ⟨h.base.lex h.L k, hL, h.Bd.lex h.L k, Nat.le_trans h.sz k.size, h.gB, hj⟩
theorem St.below (h : St F B b ls k3 k4 s eof i acc w) (k : Below w.heap.size w w') : St F B b ls k3 k4 s eof i acc w' :=
  ⟨h.base.below k, h.L.kept (X := fun _ => False) (.of_below k) id, h.Bd.below k, Nat.le_trans h.sz k.size, h.gB, h.hi⟩
theorem St.write {out : List UInt8} (h : St F B b ls k3 k4 s eof i acc w) (hB : IsB B b (Lib.byteCells acc ++ Lib.byteCells out) w') (hf : Frame B b w w') : St F B b ls k3 k4 s eof i (acc ++ out) w' := by
  obtain ⟨hBb, _, c, hb⟩ := h.Bd.block
  have hnx : ∀ x, x < B → ¬ BX B b w x := fun x hx hy => by rcases hy with rfl | ⟨h1, _⟩ <;> omega
  have hlx : ¬ BX B b w ls := fun hy => by
    rcases hy with e | ⟨_, h1⟩
    · exact h.not_ls e.symm
    · exact not_row h.L (by decide) h1
  refine ⟨h.base.kept hf.kp (hnx _ h.gB.1) (hnx _ h.gB.2.1) (hnx _ h.gB.2.2) ?_ ?_, h.L.kept hf.kp hlx, ?_, Nat.le_trans h.sz hf.kp.size, h.gB, h.hi⟩
  · rintro (e | ⟨_, h1⟩)
    · exact heap_ne h.base.c3 hb (by decide) e
    · exact not_row h.base.c3 (by decide) h1
  · rintro (e | ⟨_, h1⟩)
    · exact heap_ne h.base.c4 hb (by decide) e
    · exact not_row h.base.c4 (by decide) h1
  · have e : Lib.byteCells (acc ++ out) = Lib.byteCells acc ++ Lib.byteCells out := by simp [Lib.byteCells]
    rw [e]; exact hB
theorem St.cells (h : St F B b ls k3 k4 s eof i acc w) : w.cell? ⟨k3, 0, none⟩ = some (.pointer (some ⟨b, 0, none⟩)) ∧ w.cell? ⟨k4, 0, none⟩ = some (.pointer (some ⟨ls, 0, none⟩)) ∧ w.cell? ⟨ls, 1, none⟩ = some (.int .i64 i) ∧ w.cell? ⟨ls, 0, none⟩ = some (.string s) := by
  refine ⟨?_, ?_, ?_, ?_⟩
  · rw [Lib.cell_of_heap h.base.c3]; rfl
  · rw [Lib.cell_of_heap h.base.c4]; rfl
  · rw [Lib.cell_of_heap h.L]; rfl
  · rw [Lib.cell_of_heap h.L]; rfl
theorem Kp.setls {ls : Nat} {w : World} (v : Value) : Kp (· = ls) w (w.setCell ⟨ls, 1, none⟩ v) := Kp.setCell (X := (· = ls)) (p := ⟨ls, 1, none⟩) (Kp.refl _ w) (.inl rfl) v
theorem St.set {j : Nat} (h : St F B b ls k3 k4 s eof i acc w) (hj : j ≤ s.size) : St F B b ls k3 k4 s eof j acc (w.setCell ⟨ls, 1, none⟩ (.int .i64 j)) :=
  h.lex h.L.set hj (Kp.setls _)
end

/-- a fault of form -/
def SynErr (w : World) (v : Value) : Prop := ∃ p m u, v = .iface 96 (.pointer (some ⟨p, 0, none⟩)) ∧ w.heap[p]? = some (.cells #[.string m, u] 98 (0, 0)) ∧
  (u = .nilIface ∨ ∃ k, u = .iface 146 (.pointer (some ⟨k, 0, none⟩)) ∧ k < w.heap.size)
/-- a group that is not to be matched -/
def NegErr (w : World) (v : Value) (a e : Nat) : Prop := ∃ p q, v = .iface 46 (.pointer (some ⟨p, 0, none⟩)) ∧ w.heap[p]? = some (.cells #[.slice (some ⟨q, 0, none⟩) 1 1] 51 (0, 0)) ∧
  w.heap[q]? = some (.cells #[.int .i64 a, .int .i64 e] 53 (0, 0))
def ErrIs (eof : Value) (r : Res) (w : World) (v : Value) : Prop :=
  (r.err = 0 → v = .nilIface) ∧ (r.err = 1 → v = eof) ∧ (r.err = 2 → NegErr w v r.st r.i) ∧ (r.err = 3 → SynErr w v)
/-- what a call leaves -/
def NPost (B b ls : Nat) (s : ByteArray) (eof : Value) (acc : List UInt8) (w : World) (r : Res) (e : Ending) (w' : World) : Prop :=
  Lx ls s r.i w' ∧ IsB B b (Lib.byteCells (acc ++ r.out)) w' ∧ Kp (XX ls B b w) w w' ∧ ∃ v, e = .returned v ∧ ErrIs eof r w' v
end Go.Proofs.YtjoefmnkbcoblaaFmt
