/- Walks: letter, WordOk, Ascii, HasMeta. -/
import Derived.Test.YtmgdljhamplgiaaChecked
import Derived.Test.YtmgdljhamplgiaaPlainA
import Derived.WalkKit
import Derived.ProofKit
import Derived.WalkLawsBesides
import Derived.WalkSpells
import Derived.Outline
import Derived.Lib.Hide
namespace Go.Proofs.Ytmgdljhamplgiaa
open Go.ChangeShapes Go.WideShapes Go.ChangeAt Go.RowKit
set_option linter.unusedVariables false

theorem ret_bool {a b : Bool} (h : a = b) : Ending.returned (.bool a) = .returned (.bool b) := by rw [h]

set_option maxHeartbeats 400000 in
theorem letter_any (n : Int) (w : World) : Calls Try.prog 19 #[.int .u8 n] w fun e w' => e = .returned (.bool (Pat.letterI n)) ∧ w = w' := by
  go_enter Try.func19, Try.ntmps19
  go_wp2
  all_goals go_ret
  all_goals exact ⟨ret_bool (by rw [Bool.eq_iff_iff]; simp [Pat.letterI]; omega), rfl⟩

set_option maxHeartbeats 400000 in
theorem wordOk_any (s : ByteArray) (w : World) (hs : s.size ≤ maxLen) :
    Calls Try.prog 12 #[.string s] w fun e w' => e = .returned (.bool (Pat.wordL s.data.toList)) ∧ w = w' := by
  unfold maxLen at hs
  go_enter Try.func12, Try.ntmps12
  go_wp2
  go_loop [3] (fun i => ∃ k : Nat, k ≤ s.size ∧ i = .int .i64 k ∧ Hid (Pat.wordL s.data.toList = Pat.wordL (s.data.toList.drop k))) (fun i => s.size - (intOf i).toNat)
  case atStart => exact ⟨0, Nat.zero_le _, rfl, Lib.hid rfl⟩
  case round =>
    obtain ⟨k, hk, rfl, H⟩ := hrel
    by_cases hlt : k < s.size
    · have HD := Lib.hid (Pat.drop_cons s k hlt)
      go_wp2_with (go_at_call 19; refine (letter_any _ _).mono ?_; rintro e w' ⟨rfl, rfl⟩)
      · go_round
        case rel => exact ⟨k + 1, by omega, by go_num, Lib.hid (by rw [H.out, HD.out]; simp [Pat.wordL, Pat.wordI, *])⟩
        case measure => simp [intOf]; omega
      · go_ret
        exact ⟨ret_bool (by rw [H.out, HD.out]; simp_all [Pat.wordL, Pat.wordI]), rfl⟩
      · go_round
        case rel => exact ⟨k + 1, by omega, by go_num, Lib.hid (by rw [H.out, HD.out]; simp_all [Pat.wordL, Pat.wordI])⟩
        case measure => simp [intOf]; omega
    · go_wp2
      go_ret
      exact ⟨ret_bool (by rw [H.out, Pat.drop_end s k (by omega)]; rfl), rfl⟩

set_option maxHeartbeats 400000 in
theorem ascii_any (s : ByteArray) (w : World) (hs : s.size ≤ maxLen) :
    Calls Try.prog 15 #[.string s] w fun e w' => e = .returned (.bool (Pat.asciiL s.data.toList)) ∧ w = w' := by
  unfold maxLen at hs
  go_enter Try.func15, Try.ntmps15
  go_wp2
  go_loop [3] (fun i => ∃ k : Nat, k ≤ s.size ∧ i = .int .i64 k ∧ Hid (Pat.asciiL s.data.toList = Pat.asciiL (s.data.toList.drop k))) (fun i => s.size - (intOf i).toNat)
  case atStart => exact ⟨0, Nat.zero_le _, rfl, Lib.hid rfl⟩
  case round =>
    obtain ⟨k, hk, rfl, H⟩ := hrel
    by_cases hlt : k < s.size
    · have HD := Lib.hid (Pat.drop_cons s k hlt)
      by_cases hc : s[k].toNat ≤ 127
      · go_wp2
        go_round
        case rel => exact ⟨k + 1, by omega, by go_num, Lib.hid (by rw [H.out, HD.out]; simp [Pat.asciiL, hc])⟩
        case measure => simp [intOf]; omega
      · go_wp2
        go_ret
        exact ⟨ret_bool (by rw [H.out, HD.out]; simp [Pat.asciiL]; omega), rfl⟩
    · go_wp2
      go_ret
      exact ⟨ret_bool (by rw [H.out, Pat.drop_end s k (by omega)]; rfl), rfl⟩

set_option maxHeartbeats 800000 in
theorem phasMeta_any (s : ByteArray) (m : Int) (w : World) (hs : s.size < 9223372036854775806) :
    Calls Try.prog 20 #[.string s, .int .u64 m] w fun e w' => e = .returned (.bool (Pat.metaL false s.data.toList)) ∧ w = w' := by
  go_enter Try.func20, Try.ntmps20
  go_wp2
  go_loop [5, 6] (fun ob i => ∃ (k : Nat) (o : Bool), k ≤ s.size + 1 ∧ i = .int .i64 k ∧ ob = .bool o ∧ Hid (Pat.metaL false s.data.toList = Pat.metaL o (s.data.toList.drop k))) (fun _ i => s.size + 1 - (intOf i).toNat)
  case atStart => exact ⟨0, false, Nat.zero_le _, rfl, rfl, Lib.hid rfl⟩
  case round =>
    obtain ⟨k, o, hk, rfl, rfl, H⟩ := hrel
    by_cases hlt : k < s.size
    · have HD := Lib.hid (Pat.drop_cons s k hlt)
      go_wp2
      · go_round
        case rel => exact ⟨k + 1 + 1, o, by omega, by go_num, rfl, Lib.hid (by rw [H.out, HD.out, Pat.meta_esc ‹_›, List.drop_drop])⟩
        case measure => simp [intOf]; omega
      · go_ret
        exact ⟨ret_bool (by rw [H.out, HD.out, Pat.meta_star ‹_›]), rfl⟩
      · go_ret
        exact ⟨ret_bool (by rw [H.out, HD.out, Pat.meta_any ‹_›]), rfl⟩
      · go_round
        case rel => exact ⟨k + 1, true, by omega, by go_num, rfl, Lib.hid (by rw [H.out, HD.out, Pat.meta_open ‹_›])⟩
        case measure => simp [intOf]; omega
      · obtain rfl : o = true := by assumption
        go_ret
        exact ⟨ret_bool (by rw [H.out, HD.out, Pat.meta_close ‹_›]), rfl⟩
      · obtain rfl : o = false := by assumption
        go_round
        case rel => exact ⟨k + 1, false, by omega, by go_num, rfl, Lib.hid (by rw [H.out, HD.out, Pat.meta_close0 ‹_›])⟩
        case measure => simp [intOf]; omega
      · go_round
        case rel => exact ⟨k + 1, o, by omega, by go_num, rfl, Lib.hid (by rw [H.out, HD.out, Pat.meta_other ‹_› ‹_› ‹_› ‹_› ‹_›])⟩
        case measure => simp [intOf]; omega
    · go_wp2
      go_ret
      exact ⟨ret_bool (by rw [H.out, Pat.drop_end s k (by omega)]; rfl), rfl⟩

theorem hasMeta_any (s : ByteArray) (w : World) (hs : s.size < 9223372036854775806) :
    Calls Try.prog 13 #[.string s] w fun e w' => e = .returned (.bool (Pat.metaL false s.data.toList)) ∧ w = w' := by
  go_enter Try.func13, Try.ntmps13
  go_wp2_with (go_at_call 20; refine (phasMeta_any _ _ _ hs).mono ?_; rintro e w' ⟨rfl, rfl⟩)
  go_ret
  exact ⟨rfl, rfl⟩

theorem metas_any (w : World) :
    Calls Try.prog 14 #[] w fun e w' => e = .returned (.bool true) ∧ w = w' := by
  go_enter Try.func14, Try.ntmps14
  go_wp2_with (go_at_call 13; refine (hasMeta_any _ _ (by decide)).mono ?_; rintro e w' ⟨rfl, rfl⟩)
  go_ret
  exact ⟨ret_bool (by decide), rfl⟩
end Go.Proofs.Ytmgdljhamplgiaa
