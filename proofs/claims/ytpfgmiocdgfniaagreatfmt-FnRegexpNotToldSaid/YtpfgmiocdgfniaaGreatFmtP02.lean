/- Joined by pack.py: CharC. -/
import Derived.Test.YtpfgmiocdgfniaaGreatFmtP01
set_option linter.unusedVariables false
set_option maxHeartbeats 8000000
set_option maxRecDepth 1000000
namespace Go.Proofs.YtpfgmiocdgfniaaGreatFmt
open Go.RowKit Go.Extern.Stop Go.Stop Go.Extern
def known : List (List UInt8) := [[97, 108, 110, 117, 109], [97, 108, 112, 104, 97], [97, 115, 99, 105, 105], [98, 108, 97, 110, 107], [99, 110, 116, 114, 108], [100, 105, 103, 105, 116], [103, 114, 97, 112, 104], [108, 111, 119, 101, 114], [112, 114, 105, 110, 116], [112, 117, 110, 99, 116], [115, 112, 97, 99, 101], [117, 112, 112, 101, 114], [119, 111, 114, 100], [120, 100, 105, 103, 105, 116]]
def cc (l : List UInt8) : Nat × Bool :=
  match l with
  | [] => (0, false)
  | c :: r =>
    if c.toNat = 46 ∨ c.toNat = 61 then (match idx r [c, 93] with | none => (0, true) | some k => (k + 3, true))
    else if c.toNat = 58 then (match idx r [58, 93] with | none => (0, true) | some k => (k + 3, !known.contains (r.take k)))
    else (0, false)
def CcPost (r : Nat × Bool) (w : World) (e : Ending) (w' : World) : Prop := ∃ v, e = .returned (.tuple #[.int .i64 (r.1 : Int), v]) ∧ (r.2 = false → v = .nilIface) ∧ (r.2 = true → ∃ k, v = .iface 154 (.pointer (some ⟨k, 0, none⟩)) ∧ k < w'.heap.size) ∧ Below w.heap.size w w'
theorem ccpost_ok {w w' : World} (n : Nat) (hb : Below w.heap.size w w') : CcPost (n, false) w (.returned (.tuple #[.int .i64 (n : Int), .nilIface])) w' :=
  ⟨.nilIface, rfl, fun _ => rfl, fun h => (by cases h), hb⟩
theorem ccpost_err {w w' : World} (n k : Nat) (hk : k < w'.heap.size) (hb : Below w.heap.size w w') : CcPost (n, true) w (.returned (.tuple #[.int .i64 (n : Int), .iface 154 (.pointer (some ⟨k, 0, none⟩))])) w' :=
  ⟨_, rfl, fun h => (by cases h), fun _ => ⟨k, rfl, hk⟩, hb⟩
theorem below_tr {w a b : World} (h : Below w.heap.size w a) (k : Below a.heap.size a b) : Below w.heap.size w b := h.trans (k.mono h.size)
theorem cut_colon (s : ByteArray) (w : World) (c : UInt8) (h : s.data.toList[0]? = some c) (hc : ¬ c.toNat = 58) :
    Calls Tryz.prog 66 #[.string s, .string ⟨#[58]⟩] w fun e w' => e = .returned (.tuple #[.string s, .bool false]) ∧ w = w' := by
  have := Tryz.strings_CutPrefix s ⟨#[58]⟩ w
  have hp : Lib.hasPrefix s.data.toList (ByteArray.mk #[58]).data.toList = false := by
    cases hl : s.data.toList with
    | nil => rfl
    | cons x r =>
      rw [hl] at h
      simp at h
      subst h
      have : (58 == x) = false := by
        rw [beq_eq_false_iff_ne]
        intro e; apply hc; rw [← e]; rfl
      simp [Lib.hasPrefix, List.isPrefixOf, this]
  rw [Lib.trimPrefix, hp] at this
  simp only [Bool.false_eq_true, if_false, Pat.bytes_eta] at this
  exact this.mono fun e w' ⟨h1, h2⟩ => ⟨h1, h2.symm⟩
theorem cut_colon_yes (s : ByteArray) (w : World) (c : UInt8) (h : s.data.toList[0]? = some c) (hc : c.toNat = 58) :
    Calls Tryz.prog 66 #[.string s, .string ⟨#[58]⟩] w fun e w' => e = .returned (.tuple #[.string (s.extract 1 s.size), .bool true]) ∧ w = w' := by
  have := Tryz.strings_CutPrefix s ⟨#[58]⟩ w
  have hp : Lib.hasPrefix s.data.toList (ByteArray.mk #[58]).data.toList = true := by
    cases hl : s.data.toList with
    | nil => rw [hl] at h; simp at h
    | cons x r =>
      rw [hl] at h
      simp at h
      subst h
      have : (58 : UInt8) = x := UInt8.toNat.inj (by rw [hc]; rfl)
      subst this
      simp [Lib.hasPrefix, List.isPrefixOf]
  rw [Lib.trimPrefix, hp] at this
  have e : (ByteArray.mk (s.data.toList.drop 1).toArray) = s.extract 1 s.size := by
    apply WideShapes.bytes_inj
    rw [extract_list, Pat.data_mk, List.take_of_length_le]
    rw [List.length_drop, Pat.size_toList]; omega
  simp only [if_true] at this
  rw [show (ByteArray.mk #[58]).data.toList.length = 1 from rfl, e] at this
  exact this.mono fun e w' ⟨h1, h2⟩ => ⟨h1, h2.symm⟩
theorem cut_colon_nil (s : ByteArray) (w : World) (h : s.size = 0) :
    Calls Tryz.prog 66 #[.string s, .string ⟨#[58]⟩] w fun e w' => e = .returned (.tuple #[.string s, .bool false]) ∧ w = w' := by
  have := Tryz.strings_CutPrefix s ⟨#[58]⟩ w
  have hl : s.data.toList = [] := List.length_eq_zero_iff.1 (by rw [Pat.size_toList]; exact h)
  have hp : Lib.hasPrefix s.data.toList (ByteArray.mk #[58]).data.toList = false := by rw [hl]; rfl
  rw [Lib.trimPrefix, hp] at this
  simp only [Bool.false_eq_true, if_false, Pat.bytes_eta] at this
  exact this.mono fun e w' ⟨h1, h2⟩ => ⟨h1, h2.symm⟩
theorem known_no {l : List UInt8} (h : known.contains l = false) (x : List UInt8) (hx : x ∈ known) : (l == x) = false := by
  rw [beq_eq_false_iff_ne]
  intro e
  subst e
  have : known.contains l = true := by simpa using hx
  rw [this] at h
  cases h
theorem charClass_any (F : Interp) (s : ByteArray) (w : World) (hs : s.size ≤ 4611686018427387904) (hF : F.answers w.tape) :
    Calls Tryz.prog 46 #[.string s] w (CcPost (cc s.data.toList) w) := by
  by_cases hz : s.size = 0
  · have hl : s.data.toList = [] := List.length_eq_zero_iff.1 (by rw [Pat.size_toList]; exact hz)
    have e : cc s.data.toList = (0, false) := by rw [hl]; rfl
    rw [e]
    have HC := Lib.hid (fun w => cut_colon_nil s w hz)
    have h0 : ¬ (0 : Int) < (s.size : Int) := by omega
    clear hl e hz
    go_enter Tryz.func46, Tryz.ntmps46
    go_wp2_with fail
    refine (HC.out _).mono ?_; rintro e w' ⟨rfl, rfl⟩
    go_wp2_with fail
    go_ret2
    exact ccpost_ok 0 (Below.refl _ _)
  · have h0 : 0 < s.size := by omega
    have hd : s.data.toList = s[0] :: s.data.toList.drop 1 := by have := Pat.drop_cons s 0 h0; simpa using this
    have hh : s.data.toList[0]? = some s[0] := by rw [hd]; rfl
    have hr : s.data.toList.drop 1 = (s.extract 1 s.size).data.toList := by
      rw [extract_list, List.take_of_length_le]
      rw [List.length_drop, Pat.size_toList]; omega
    by_cases hc : s[0].toNat = 46 ∨ s[0].toNat = 61
    · rcases hc with hc | hc
      · have e1 : cc s.data.toList = (match idx (s.data.toList.drop 1) [46, 93] with | none => (0, true) | some k => (k + 3, true)) := by
          have hx : s[0] = 46 := UInt8.toNat.inj (by rw [hc]; rfl)
          rw [hd, hx]; simp [cc]
        have q1 : ((s[0].toNat : Int) == 46) = true := by rw [hc]; rfl
        have q2 : ((s[0].toNat : Int) == 61) = false := by rw [hc]; rfl
        have hcut := fun w => zzCut_any (s.extract 1 s.size) ⟨#[46, 93]⟩ w (by rw [ByteArray.size_extract]; omega) (by decide)
        rw [← hr] at hcut
        rw [show (ByteArray.mk #[46, 93]).data.toList = [46, 93] from rfl] at hcut
        have hsl : (1 : Int) ≤ (s.size : Int) := by omega
        cases hi : idx (s.data.toList.drop 1) [46, 93] with
        | none =>
          rw [hi] at e1 hcut
          dsimp only at e1 hcut
          rw [e1]
          have HC := Lib.hid hcut
          clear e1 hd hh hr hz hc hi hcut
          go_enter Tryz.func46, Tryz.ntmps46
          go_wp2_with fail
          refine (HC.out _).mono ?_; rintro e w1 ⟨rfl, hb1⟩
          go_wp2_with fail
          refine (errorf_plain1 _).mono ?_; rintro e w2 ⟨k, hk1, hk2, rfl, hb2⟩
          go_wp2_with fail
          go_ret2
          exact ccpost_err 0 k hk2 (below_tr hb1 hb2)
        | some m =>
          have hm := idx_le _ _ _ hi
          rw [hr, Pat.size_toList, ByteArray.size_extract] at hm
          rw [hi] at e1 hcut
          dsimp only at e1 hcut
          rw [e1]
          have HC := Lib.hid hcut
          have hxs : ((s.extract 1 s.size).extract 0 m).size = m := by rw [ByteArray.size_extract, ByteArray.size_extract]; simp at hm ⊢; omega
          have hm2 : m ≤ 4611686018427387904 := by simp at hm; omega
          generalize (s.extract 1 s.size).extract 0 m = nm at *
          clear e1 hd hh hr hz hc hi hcut hm
          have HX := Lib.hid hxs
          have hx1 : nm.size ≤ 4611686018427387904 := by omega
          clear hxs
          go_enter Tryz.func46, Tryz.ntmps46
          go_wp2_with fail
          refine (HC.out _).mono ?_; rintro e w1 ⟨rfl, hb1⟩
          go_wp2_with fail
          refine (errorf_plain1 _).mono ?_; rintro e w2 ⟨k, hk1, hk2, rfl, hb2⟩
          go_wp2_with fail
          go_ret2
          rw [HX.out]
          exact ccpost_err (m + 3) k hk2 (below_tr hb1 hb2)
      · have e1 : cc s.data.toList = (match idx (s.data.toList.drop 1) [61, 93] with | none => (0, true) | some k => (k + 3, true)) := by
          have hx : s[0] = 61 := UInt8.toNat.inj (by rw [hc]; rfl)
          rw [hd, hx]; simp [cc]
        have q1 : ((s[0].toNat : Int) == 46) = false := by rw [hc]; rfl
        have q2 : ((s[0].toNat : Int) == 61) = true := by rw [hc]; rfl
        have hcut := fun w => zzCut_any (s.extract 1 s.size) ⟨#[61, 93]⟩ w (by rw [ByteArray.size_extract]; omega) (by decide)
        rw [← hr] at hcut
        rw [show (ByteArray.mk #[61, 93]).data.toList = [61, 93] from rfl] at hcut
        have hsl : (1 : Int) ≤ (s.size : Int) := by omega
        cases hi : idx (s.data.toList.drop 1) [61, 93] with
        | none =>
          rw [hi] at e1 hcut
          dsimp only at e1 hcut
          rw [e1]
          have HC := Lib.hid hcut
          clear e1 hd hh hr hz hc hi hcut
          go_enter Tryz.func46, Tryz.ntmps46
          go_wp2_with fail
          refine (HC.out _).mono ?_; rintro e w1 ⟨rfl, hb1⟩
          go_wp2_with fail
          refine (errorf_plain1 _).mono ?_; rintro e w2 ⟨k, hk1, hk2, rfl, hb2⟩
          go_wp2_with fail
          go_ret2
          exact ccpost_err 0 k hk2 (below_tr hb1 hb2)
        | some m =>
          have hm := idx_le _ _ _ hi
          rw [hr, Pat.size_toList, ByteArray.size_extract] at hm
          rw [hi] at e1 hcut
          dsimp only at e1 hcut
          rw [e1]
          have HC := Lib.hid hcut
          have hxs : ((s.extract 1 s.size).extract 0 m).size = m := by rw [ByteArray.size_extract, ByteArray.size_extract]; simp at hm ⊢; omega
          have hm2 : m ≤ 4611686018427387904 := by simp at hm; omega
          generalize (s.extract 1 s.size).extract 0 m = nm at *
          clear e1 hd hh hr hz hc hi hcut hm
          have HX := Lib.hid hxs
          have hx1 : nm.size ≤ 4611686018427387904 := by omega
          clear hxs
          go_enter Tryz.func46, Tryz.ntmps46
          go_wp2_with fail
          refine (HC.out _).mono ?_; rintro e w1 ⟨rfl, hb1⟩
          go_wp2_with fail
          refine (errorf_plain1 _).mono ?_; rintro e w2 ⟨k, hk1, hk2, rfl, hb2⟩
          go_wp2_with fail
          go_ret2
          rw [HX.out]
          exact ccpost_err (m + 3) k hk2 (below_tr hb1 hb2)
    · by_cases h58 : s[0].toNat = 58
      · have hx : s[0] = 58 := UInt8.toNat.inj (by rw [h58]; rfl)
        have e1 : cc s.data.toList = (match idx (s.data.toList.drop 1) [58, 93] with | none => (0, true) | some k => (k + 3, !known.contains ((s.data.toList.drop 1).take k))) := by
          rw [hd, hx]; simp [cc]
        have HCP := Lib.hid (fun w => cut_colon_yes s w s[0] hh h58)
        have q1 : ((s[0].toNat : Int) == 46) = false := by rw [h58]; rfl
        have q2 : ((s[0].toNat : Int) == 61) = false := by rw [h58]; rfl
        have hcut := fun w => zzCut_any (s.extract 1 s.size) ⟨#[58, 93]⟩ w (by rw [ByteArray.size_extract]; omega) (by decide)
        rw [← hr] at hcut
        rw [show (ByteArray.mk #[58, 93]).data.toList = [58, 93] from rfl] at hcut
        cases hi : idx (s.data.toList.drop 1) [58, 93] with
        | none =>
          rw [hi] at e1 hcut
          dsimp only at e1 hcut
          rw [e1]
          have HC := Lib.hid hcut
          clear e1 hd hh hr hz hc hi hcut hx h58
          go_enter Tryz.func46, Tryz.ntmps46
          go_wp2_with fail
          refine (HCP.out _).mono ?_; rintro e w' ⟨rfl, rfl⟩
          go_wp2_with fail
          refine (HC.out _).mono ?_; rintro e w1 ⟨rfl, hb1⟩
          go_wp2_with fail
          refine (errorf_plain2 _).mono ?_; rintro e w2 ⟨k, hk1, hk2, rfl, hb2⟩
          go_wp2_with fail
          go_ret2
          exact ccpost_err 0 k hk2 (below_tr hb1 hb2)
        | some m =>
          have hm := idx_le _ _ _ hi
          rw [hr, Pat.size_toList, ByteArray.size_extract] at hm
          have htk : (s.data.toList.drop 1).take m = ((s.extract 1 s.size).extract 0 m).data.toList := by
            rw [extract_list, ← hr]; simp
          rw [hi] at e1 hcut
          dsimp only at e1 hcut
          rw [htk] at e1
          rw [e1]
          have HC := Lib.hid hcut
          have hxs : ((s.extract 1 s.size).extract 0 m).size = m := by rw [ByteArray.size_extract, ByteArray.size_extract]; simp at hm ⊢; omega
          have hm2 : m ≤ 4611686018427387904 := by simp at hm; omega
          generalize (s.extract 1 s.size).extract 0 m = nm at *
          clear e1 hd hh hr hz hc hi hcut hm hx h58 htk
          have HX := Lib.hid hxs
          have hx1 : nm.size ≤ 4611686018427387904 := by omega
          clear hxs
          cases hkn : known.contains nm.data.toList
          · have n0 : (nm.toList == [97, 108, 110, 117, 109]) = false := by rw [toList_data]; exact known_no hkn _ (by decide)
            have n1 : (nm.toList == [97, 108, 112, 104, 97]) = false := by rw [toList_data]; exact known_no hkn _ (by decide)
            have n2 : (nm.toList == [97, 115, 99, 105, 105]) = false := by rw [toList_data]; exact known_no hkn _ (by decide)
            have n3 : (nm.toList == [98, 108, 97, 110, 107]) = false := by rw [toList_data]; exact known_no hkn _ (by decide)
            have n4 : (nm.toList == [99, 110, 116, 114, 108]) = false := by rw [toList_data]; exact known_no hkn _ (by decide)
            have n5 : (nm.toList == [100, 105, 103, 105, 116]) = false := by rw [toList_data]; exact known_no hkn _ (by decide)
            have n6 : (nm.toList == [103, 114, 97, 112, 104]) = false := by rw [toList_data]; exact known_no hkn _ (by decide)
            have n7 : (nm.toList == [108, 111, 119, 101, 114]) = false := by rw [toList_data]; exact known_no hkn _ (by decide)
            have n8 : (nm.toList == [112, 114, 105, 110, 116]) = false := by rw [toList_data]; exact known_no hkn _ (by decide)
            have n9 : (nm.toList == [112, 117, 110, 99, 116]) = false := by rw [toList_data]; exact known_no hkn _ (by decide)
            have n10 : (nm.toList == [115, 112, 97, 99, 101]) = false := by rw [toList_data]; exact known_no hkn _ (by decide)
            have n11 : (nm.toList == [117, 112, 112, 101, 114]) = false := by rw [toList_data]; exact known_no hkn _ (by decide)
            have n12 : (nm.toList == [119, 111, 114, 100]) = false := by rw [toList_data]; exact known_no hkn _ (by decide)
            have n13 : (nm.toList == [120, 100, 105, 103, 105, 116]) = false := by rw [toList_data]; exact known_no hkn _ (by decide)
            clear hkn
            go_enter Tryz.func46, Tryz.ntmps46
            go_wp2_with fail
            refine (HCP.out _).mono ?_; rintro e w' ⟨rfl, rfl⟩
            go_wp2_with fail
            refine (HC.out _).mono ?_; rintro e w1 ⟨rfl, hb1⟩
            have hF1 : F.answers w1.tape := by rw [hb1.tape]; exact hF
            go_wp2_with fail
            refine (errorf_q F w1.heap.size nm _ (by exact hF1) (by simp)).mono ?_; rintro e w2 ⟨k, hk1, hk2, rfl, hb2⟩
            go_wp2_with fail
            go_ret2
            rw [HX.out]
            exact ccpost_err (m + 3) k hk2 ((hb1.alloc hb1.size _).trans (hb2.mono (by have := hb1.size; simp; omega)))
          · have hmem : nm.data.toList ∈ known := by simpa using hkn
            simp only [known, List.mem_cons, List.not_mem_nil, or_false] at hmem
            clear hkn
            rcases hmem with hL | hL | hL | hL | hL | hL | hL | hL | hL | hL | hL | hL | hL | hL
            · have n0 : (nm.toList == [97, 108, 110, 117, 109]) = true := by rw [toList_data, hL]; rfl
              clear hL
              go_enter Tryz.func46, Tryz.ntmps46
              go_wp2_with fail
              refine (HCP.out _).mono ?_; rintro e w' ⟨rfl, rfl⟩
              go_wp2_with fail
              refine (HC.out _).mono ?_; rintro e w1 ⟨rfl, hb1⟩
              go_wp2_with fail
              go_ret2
              rw [HX.out]
              exact ccpost_ok (m + 3) hb1
            · have n0 : (nm.toList == [97, 108, 110, 117, 109]) = false := by rw [toList_data, hL]; rfl
              have n1 : (nm.toList == [97, 108, 112, 104, 97]) = true := by rw [toList_data, hL]; rfl
              clear hL
              go_enter Tryz.func46, Tryz.ntmps46
              go_wp2_with fail
              refine (HCP.out _).mono ?_; rintro e w' ⟨rfl, rfl⟩
              go_wp2_with fail
              refine (HC.out _).mono ?_; rintro e w1 ⟨rfl, hb1⟩
              go_wp2_with fail
              go_ret2
              rw [HX.out]
              exact ccpost_ok (m + 3) hb1
            · have n0 : (nm.toList == [97, 108, 110, 117, 109]) = false := by rw [toList_data, hL]; rfl
              have n1 : (nm.toList == [97, 108, 112, 104, 97]) = false := by rw [toList_data, hL]; rfl
              have n2 : (nm.toList == [97, 115, 99, 105, 105]) = true := by rw [toList_data, hL]; rfl
              clear hL
              go_enter Tryz.func46, Tryz.ntmps46
              go_wp2_with fail
              refine (HCP.out _).mono ?_; rintro e w' ⟨rfl, rfl⟩
              go_wp2_with fail
              refine (HC.out _).mono ?_; rintro e w1 ⟨rfl, hb1⟩
              go_wp2_with fail
              go_ret2
              rw [HX.out]
              exact ccpost_ok (m + 3) hb1
            · have n0 : (nm.toList == [97, 108, 110, 117, 109]) = false := by rw [toList_data, hL]; rfl
              have n1 : (nm.toList == [97, 108, 112, 104, 97]) = false := by rw [toList_data, hL]; rfl
              have n2 : (nm.toList == [97, 115, 99, 105, 105]) = false := by rw [toList_data, hL]; rfl
              have n3 : (nm.toList == [98, 108, 97, 110, 107]) = true := by rw [toList_data, hL]; rfl
              clear hL
              go_enter Tryz.func46, Tryz.ntmps46
              go_wp2_with fail
              refine (HCP.out _).mono ?_; rintro e w' ⟨rfl, rfl⟩
              go_wp2_with fail
              refine (HC.out _).mono ?_; rintro e w1 ⟨rfl, hb1⟩
              go_wp2_with fail
              go_ret2
              rw [HX.out]
              exact ccpost_ok (m + 3) hb1
            · have n0 : (nm.toList == [97, 108, 110, 117, 109]) = false := by rw [toList_data, hL]; rfl
              have n1 : (nm.toList == [97, 108, 112, 104, 97]) = false := by rw [toList_data, hL]; rfl
              have n2 : (nm.toList == [97, 115, 99, 105, 105]) = false := by rw [toList_data, hL]; rfl
              have n3 : (nm.toList == [98, 108, 97, 110, 107]) = false := by rw [toList_data, hL]; rfl
              have n4 : (nm.toList == [99, 110, 116, 114, 108]) = true := by rw [toList_data, hL]; rfl
              clear hL
              go_enter Tryz.func46, Tryz.ntmps46
              go_wp2_with fail
              refine (HCP.out _).mono ?_; rintro e w' ⟨rfl, rfl⟩
              go_wp2_with fail
              refine (HC.out _).mono ?_; rintro e w1 ⟨rfl, hb1⟩
              go_wp2_with fail
              go_ret2
              rw [HX.out]
              exact ccpost_ok (m + 3) hb1
            · have n0 : (nm.toList == [97, 108, 110, 117, 109]) = false := by rw [toList_data, hL]; rfl
              have n1 : (nm.toList == [97, 108, 112, 104, 97]) = false := by rw [toList_data, hL]; rfl
              have n2 : (nm.toList == [97, 115, 99, 105, 105]) = false := by rw [toList_data, hL]; rfl
              have n3 : (nm.toList == [98, 108, 97, 110, 107]) = false := by rw [toList_data, hL]; rfl
              have n4 : (nm.toList == [99, 110, 116, 114, 108]) = false := by rw [toList_data, hL]; rfl
              have n5 : (nm.toList == [100, 105, 103, 105, 116]) = true := by rw [toList_data, hL]; rfl
              clear hL
              go_enter Tryz.func46, Tryz.ntmps46
              go_wp2_with fail
              refine (HCP.out _).mono ?_; rintro e w' ⟨rfl, rfl⟩
              go_wp2_with fail
              refine (HC.out _).mono ?_; rintro e w1 ⟨rfl, hb1⟩
              go_wp2_with fail
              go_ret2
              rw [HX.out]
              exact ccpost_ok (m + 3) hb1
            · have n0 : (nm.toList == [97, 108, 110, 117, 109]) = false := by rw [toList_data, hL]; rfl
              have n1 : (nm.toList == [97, 108, 112, 104, 97]) = false := by rw [toList_data, hL]; rfl
              have n2 : (nm.toList == [97, 115, 99, 105, 105]) = false := by rw [toList_data, hL]; rfl
              have n3 : (nm.toList == [98, 108, 97, 110, 107]) = false := by rw [toList_data, hL]; rfl
              have n4 : (nm.toList == [99, 110, 116, 114, 108]) = false := by rw [toList_data, hL]; rfl
              have n5 : (nm.toList == [100, 105, 103, 105, 116]) = false := by rw [toList_data, hL]; rfl
              have n6 : (nm.toList == [103, 114, 97, 112, 104]) = true := by rw [toList_data, hL]; rfl
              clear hL
              go_enter Tryz.func46, Tryz.ntmps46
              go_wp2_with fail
              refine (HCP.out _).mono ?_; rintro e w' ⟨rfl, rfl⟩
              go_wp2_with fail
              refine (HC.out _).mono ?_; rintro e w1 ⟨rfl, hb1⟩
              go_wp2_with fail
              go_ret2
              rw [HX.out]
              exact ccpost_ok (m + 3) hb1
            · have n0 : (nm.toList == [97, 108, 110, 117, 109]) = false := by rw [toList_data, hL]; rfl
              have n1 : (nm.toList == [97, 108, 112, 104, 97]) = false := by rw [toList_data, hL]; rfl
              have n2 : (nm.toList == [97, 115, 99, 105, 105]) = false := by rw [toList_data, hL]; rfl
              have n3 : (nm.toList == [98, 108, 97, 110, 107]) = false := by rw [toList_data, hL]; rfl
              have n4 : (nm.toList == [99, 110, 116, 114, 108]) = false := by rw [toList_data, hL]; rfl
              have n5 : (nm.toList == [100, 105, 103, 105, 116]) = false := by rw [toList_data, hL]; rfl
              have n6 : (nm.toList == [103, 114, 97, 112, 104]) = false := by rw [toList_data, hL]; rfl
              have n7 : (nm.toList == [108, 111, 119, 101, 114]) = true := by rw [toList_data, hL]; rfl
              clear hL
              go_enter Tryz.func46, Tryz.ntmps46
              go_wp2_with fail
              refine (HCP.out _).mono ?_; rintro e w' ⟨rfl, rfl⟩
              go_wp2_with fail
              refine (HC.out _).mono ?_; rintro e w1 ⟨rfl, hb1⟩
              go_wp2_with fail
              go_ret2
              rw [HX.out]
              exact ccpost_ok (m + 3) hb1
            · have n0 : (nm.toList == [97, 108, 110, 117, 109]) = false := by rw [toList_data, hL]; rfl
              have n1 : (nm.toList == [97, 108, 112, 104, 97]) = false := by rw [toList_data, hL]; rfl
              have n2 : (nm.toList == [97, 115, 99, 105, 105]) = false := by rw [toList_data, hL]; rfl
              have n3 : (nm.toList == [98, 108, 97, 110, 107]) = false := by rw [toList_data, hL]; rfl
              have n4 : (nm.toList == [99, 110, 116, 114, 108]) = false := by rw [toList_data, hL]; rfl
              have n5 : (nm.toList == [100, 105, 103, 105, 116]) = false := by rw [toList_data, hL]; rfl
              have n6 : (nm.toList == [103, 114, 97, 112, 104]) = false := by rw [toList_data, hL]; rfl
              have n7 : (nm.toList == [108, 111, 119, 101, 114]) = false := by rw [toList_data, hL]; rfl
              have n8 : (nm.toList == [112, 114, 105, 110, 116]) = true := by rw [toList_data, hL]; rfl
              clear hL
              go_enter Tryz.func46, Tryz.ntmps46
              go_wp2_with fail
              refine (HCP.out _).mono ?_; rintro e w' ⟨rfl, rfl⟩
              go_wp2_with fail
              refine (HC.out _).mono ?_; rintro e w1 ⟨rfl, hb1⟩
              go_wp2_with fail
              go_ret2
              rw [HX.out]
              exact ccpost_ok (m + 3) hb1
            · have n0 : (nm.toList == [97, 108, 110, 117, 109]) = false := by rw [toList_data, hL]; rfl
              have n1 : (nm.toList == [97, 108, 112, 104, 97]) = false := by rw [toList_data, hL]; rfl
              have n2 : (nm.toList == [97, 115, 99, 105, 105]) = false := by rw [toList_data, hL]; rfl
              have n3 : (nm.toList == [98, 108, 97, 110, 107]) = false := by rw [toList_data, hL]; rfl
              have n4 : (nm.toList == [99, 110, 116, 114, 108]) = false := by rw [toList_data, hL]; rfl
              have n5 : (nm.toList == [100, 105, 103, 105, 116]) = false := by rw [toList_data, hL]; rfl
              have n6 : (nm.toList == [103, 114, 97, 112, 104]) = false := by rw [toList_data, hL]; rfl
              have n7 : (nm.toList == [108, 111, 119, 101, 114]) = false := by rw [toList_data, hL]; rfl
              have n8 : (nm.toList == [112, 114, 105, 110, 116]) = false := by rw [toList_data, hL]; rfl
              have n9 : (nm.toList == [112, 117, 110, 99, 116]) = true := by rw [toList_data, hL]; rfl
              clear hL
              go_enter Tryz.func46, Tryz.ntmps46
              go_wp2_with fail
              refine (HCP.out _).mono ?_; rintro e w' ⟨rfl, rfl⟩
              go_wp2_with fail
              refine (HC.out _).mono ?_; rintro e w1 ⟨rfl, hb1⟩
              go_wp2_with fail
              go_ret2
              rw [HX.out]
              exact ccpost_ok (m + 3) hb1
            · have n0 : (nm.toList == [97, 108, 110, 117, 109]) = false := by rw [toList_data, hL]; rfl
              have n1 : (nm.toList == [97, 108, 112, 104, 97]) = false := by rw [toList_data, hL]; rfl
              have n2 : (nm.toList == [97, 115, 99, 105, 105]) = false := by rw [toList_data, hL]; rfl
              have n3 : (nm.toList == [98, 108, 97, 110, 107]) = false := by rw [toList_data, hL]; rfl
              have n4 : (nm.toList == [99, 110, 116, 114, 108]) = false := by rw [toList_data, hL]; rfl
              have n5 : (nm.toList == [100, 105, 103, 105, 116]) = false := by rw [toList_data, hL]; rfl
              have n6 : (nm.toList == [103, 114, 97, 112, 104]) = false := by rw [toList_data, hL]; rfl
              have n7 : (nm.toList == [108, 111, 119, 101, 114]) = false := by rw [toList_data, hL]; rfl
              have n8 : (nm.toList == [112, 114, 105, 110, 116]) = false := by rw [toList_data, hL]; rfl
              have n9 : (nm.toList == [112, 117, 110, 99, 116]) = false := by rw [toList_data, hL]; rfl
              have n10 : (nm.toList == [115, 112, 97, 99, 101]) = true := by rw [toList_data, hL]; rfl
              clear hL
              go_enter Tryz.func46, Tryz.ntmps46
              go_wp2_with fail
              refine (HCP.out _).mono ?_; rintro e w' ⟨rfl, rfl⟩
              go_wp2_with fail
              refine (HC.out _).mono ?_; rintro e w1 ⟨rfl, hb1⟩
              go_wp2_with fail
              go_ret2
              rw [HX.out]
              exact ccpost_ok (m + 3) hb1
            · have n0 : (nm.toList == [97, 108, 110, 117, 109]) = false := by rw [toList_data, hL]; rfl
              have n1 : (nm.toList == [97, 108, 112, 104, 97]) = false := by rw [toList_data, hL]; rfl
              have n2 : (nm.toList == [97, 115, 99, 105, 105]) = false := by rw [toList_data, hL]; rfl
              have n3 : (nm.toList == [98, 108, 97, 110, 107]) = false := by rw [toList_data, hL]; rfl
              have n4 : (nm.toList == [99, 110, 116, 114, 108]) = false := by rw [toList_data, hL]; rfl
              have n5 : (nm.toList == [100, 105, 103, 105, 116]) = false := by rw [toList_data, hL]; rfl
              have n6 : (nm.toList == [103, 114, 97, 112, 104]) = false := by rw [toList_data, hL]; rfl
              have n7 : (nm.toList == [108, 111, 119, 101, 114]) = false := by rw [toList_data, hL]; rfl
              have n8 : (nm.toList == [112, 114, 105, 110, 116]) = false := by rw [toList_data, hL]; rfl
              have n9 : (nm.toList == [112, 117, 110, 99, 116]) = false := by rw [toList_data, hL]; rfl
              have n10 : (nm.toList == [115, 112, 97, 99, 101]) = false := by rw [toList_data, hL]; rfl
              have n11 : (nm.toList == [117, 112, 112, 101, 114]) = true := by rw [toList_data, hL]; rfl
              clear hL
              go_enter Tryz.func46, Tryz.ntmps46
              go_wp2_with fail
              refine (HCP.out _).mono ?_; rintro e w' ⟨rfl, rfl⟩
              go_wp2_with fail
              refine (HC.out _).mono ?_; rintro e w1 ⟨rfl, hb1⟩
              go_wp2_with fail
              go_ret2
              rw [HX.out]
              exact ccpost_ok (m + 3) hb1
            · have n0 : (nm.toList == [97, 108, 110, 117, 109]) = false := by rw [toList_data, hL]; rfl
              have n1 : (nm.toList == [97, 108, 112, 104, 97]) = false := by rw [toList_data, hL]; rfl
              have n2 : (nm.toList == [97, 115, 99, 105, 105]) = false := by rw [toList_data, hL]; rfl
              have n3 : (nm.toList == [98, 108, 97, 110, 107]) = false := by rw [toList_data, hL]; rfl
              have n4 : (nm.toList == [99, 110, 116, 114, 108]) = false := by rw [toList_data, hL]; rfl
              have n5 : (nm.toList == [100, 105, 103, 105, 116]) = false := by rw [toList_data, hL]; rfl
              have n6 : (nm.toList == [103, 114, 97, 112, 104]) = false := by rw [toList_data, hL]; rfl
              have n7 : (nm.toList == [108, 111, 119, 101, 114]) = false := by rw [toList_data, hL]; rfl
              have n8 : (nm.toList == [112, 114, 105, 110, 116]) = false := by rw [toList_data, hL]; rfl
              have n9 : (nm.toList == [112, 117, 110, 99, 116]) = false := by rw [toList_data, hL]; rfl
              have n10 : (nm.toList == [115, 112, 97, 99, 101]) = false := by rw [toList_data, hL]; rfl
              have n11 : (nm.toList == [117, 112, 112, 101, 114]) = false := by rw [toList_data, hL]; rfl
              have n12 : (nm.toList == [119, 111, 114, 100]) = true := by rw [toList_data, hL]; rfl
              clear hL
              go_enter Tryz.func46, Tryz.ntmps46
              go_wp2_with fail
              refine (HCP.out _).mono ?_; rintro e w' ⟨rfl, rfl⟩
              go_wp2_with fail
              refine (HC.out _).mono ?_; rintro e w1 ⟨rfl, hb1⟩
              go_wp2_with fail
              go_ret2
              rw [HX.out]
              exact ccpost_ok (m + 3) hb1
            · have n0 : (nm.toList == [97, 108, 110, 117, 109]) = false := by rw [toList_data, hL]; rfl
              have n1 : (nm.toList == [97, 108, 112, 104, 97]) = false := by rw [toList_data, hL]; rfl
              have n2 : (nm.toList == [97, 115, 99, 105, 105]) = false := by rw [toList_data, hL]; rfl
              have n3 : (nm.toList == [98, 108, 97, 110, 107]) = false := by rw [toList_data, hL]; rfl
              have n4 : (nm.toList == [99, 110, 116, 114, 108]) = false := by rw [toList_data, hL]; rfl
              have n5 : (nm.toList == [100, 105, 103, 105, 116]) = false := by rw [toList_data, hL]; rfl
              have n6 : (nm.toList == [103, 114, 97, 112, 104]) = false := by rw [toList_data, hL]; rfl
              have n7 : (nm.toList == [108, 111, 119, 101, 114]) = false := by rw [toList_data, hL]; rfl
              have n8 : (nm.toList == [112, 114, 105, 110, 116]) = false := by rw [toList_data, hL]; rfl
              have n9 : (nm.toList == [112, 117, 110, 99, 116]) = false := by rw [toList_data, hL]; rfl
              have n10 : (nm.toList == [115, 112, 97, 99, 101]) = false := by rw [toList_data, hL]; rfl
              have n11 : (nm.toList == [117, 112, 112, 101, 114]) = false := by rw [toList_data, hL]; rfl
              have n12 : (nm.toList == [119, 111, 114, 100]) = false := by rw [toList_data, hL]; rfl
              have n13 : (nm.toList == [120, 100, 105, 103, 105, 116]) = true := by rw [toList_data, hL]; rfl
              clear hL
              go_enter Tryz.func46, Tryz.ntmps46
              go_wp2_with fail
              refine (HCP.out _).mono ?_; rintro e w' ⟨rfl, rfl⟩
              go_wp2_with fail
              refine (HC.out _).mono ?_; rintro e w1 ⟨rfl, hb1⟩
              go_wp2_with fail
              go_ret2
              rw [HX.out]
              exact ccpost_ok (m + 3) hb1
      · have e : cc s.data.toList = (0, false) := by rw [hd]; simp [cc, hc, h58]
        rw [e]
        have HC := Lib.hid (fun w => cut_colon s w s[0] hh h58)
        have q1 : ((s[0].toNat : Int) == 46) = false := by rw [beq_eq_false_iff_ne]; omega
        have q2 : ((s[0].toNat : Int) == 61) = false := by rw [beq_eq_false_iff_ne]; omega
        clear e hd hh hr hz hc h58
        go_enter Tryz.func46, Tryz.ntmps46
        go_wp2_with fail
        refine (HC.out _).mono ?_; rintro e w' ⟨rfl, rfl⟩
        go_wp2_with fail
        go_ret2
        exact ccpost_ok 0 (Below.refl _ _)
end Go.Proofs.YtpfgmiocdgfniaaGreatFmt
