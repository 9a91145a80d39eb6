/- Walks: letter, WordOk, Ascii, HasMeta. -/
import Derived.Test.YtmgdljhamplgiaaDoorChecked
import Derived.Test.YtmgdljhamplgiaaDoorPlainA
import Derived.WalkKit
import Derived.ProofKit
import Derived.WalkLawsBesides
import Derived.WalkSpells
import Derived.Outline
import Derived.Lib.Hide
namespace Go.Proofs.YtmgdljhamplgiaaDoor
open Go.ChangeShapes Go.WideShapes Go.ChangeAt Go.RowKit
set_option linter.unusedVariables false

theorem ret_bool {a b : Bool} (h : a = b) : Ending.returned (.bool a) = .returned (.bool b) := by rw [h]

set_option maxHeartbeats 400000 in
theorem letter_any (n : Int) (w : World) : Calls Tryd.prog 13 #[.int .u8 n] w fun e w' => e = .returned (.bool (Pat.letterI n)) ∧ w = w' := by
  go_enter Tryd.func13, Tryd.ntmps13
  go_wp2
  all_goals go_ret
  all_goals exact ⟨ret_bool (by rw [Bool.eq_iff_iff]; simp [Pat.letterI]; omega), rfl⟩

set_option maxHeartbeats 800000 in
theorem phasMeta_any (s : ByteArray) (m : Int) (w : World) (hs : s.size < 9223372036854775806) :
    Calls Tryd.prog 11 #[.string s, .int .u64 m] w fun e w' => e = .returned (.bool (Pat.metaL false s.data.toList)) ∧ w = w' := by
  go_enter Tryd.func11, Tryd.ntmps11
  go_wp2
  go_loop [5, 6] (fun ob i => ∃ (k : Nat) (o : Bool), k ≤ s.size + 1 ∧ i = .int .i64 k ∧ ob = .bool o ∧ Hid (Pat.metaL false s.data.toList = Pat.metaL o (s.data.toList.drop k))) (fun _ i => s.size + 1 - (intOf i).toNat)
  case atStart => exact ⟨0, false, Nat.zero_le _, rfl, rfl, Lib.hid rfl⟩
  case round =>
    obtain ⟨k, o, hk, rfl, rfl, H⟩ := hrel
    by_cases hlt : k < s.size
    · have HD := Lib.hid (Pat.drop_cons s k hlt)
      go_wp2
      · go_round
        case rel => exact ⟨k + 1 + 1, o, by omega, by go_num, rfl, Lib.hid (by rw [H.out, HD.out, Pat.meta_esc ‹_›, List.drop_drop])⟩
        case measure => simp [intOf]; omega
      · go_ret
        exact ⟨ret_bool (by rw [H.out, HD.out, Pat.meta_star ‹_›]), rfl⟩
      · go_ret
        exact ⟨ret_bool (by rw [H.out, HD.out, Pat.meta_any ‹_›]), rfl⟩
      · go_round
        case rel => exact ⟨k + 1, true, by omega, by go_num, rfl, Lib.hid (by rw [H.out, HD.out, Pat.meta_open ‹_›])⟩
        case measure => simp [intOf]; omega
      · obtain rfl : o = true := by assumption
        go_ret
        exact ⟨ret_bool (by rw [H.out, HD.out, Pat.meta_close ‹_›]), rfl⟩
      · obtain rfl : o = false := by assumption
        go_round
        case rel => exact ⟨k + 1, false, by omega, by go_num, rfl, Lib.hid (by rw [H.out, HD.out, Pat.meta_close0 ‹_›])⟩
        case measure => simp [intOf]; omega
      · go_round
        case rel => exact ⟨k + 1, o, by omega, by go_num, rfl, Lib.hid (by rw [H.out, HD.out, Pat.meta_other ‹_› ‹_› ‹_› ‹_› ‹_›])⟩
        case measure => simp [intOf]; omega
    · go_wp2
      go_ret
      exact ⟨ret_bool (by rw [H.out, Pat.drop_end s k (by omega)]; rfl), rfl⟩

theorem hasMeta_any (s : ByteArray) (w : World) (hs : s.size < 9223372036854775806) :
    Calls Tryd.prog 6 #[.string s] w fun e w' => e = .returned (.bool (Pat.metaL false s.data.toList)) ∧ w = w' := by
  go_enter Tryd.func6, Tryd.ntmps6
  go_wp2_with (go_at_call 11; refine (phasMeta_any _ _ _ hs).mono ?_; rintro e w' ⟨rfl, rfl⟩)
  go_ret
  exact ⟨rfl, rfl⟩

theorem metas_any (w : World) :
    Calls Tryd.prog 8 #[] w fun e w' => e = .returned (.bool true) ∧ w = w' := by
  go_enter Tryd.func8, Tryd.ntmps8
  go_wp2_with (go_at_call 6; refine (hasMeta_any _ _ (by decide)).mono ?_; rintro e w' ⟨rfl, rfl⟩)
  go_ret
  exact ⟨ret_bool (by decide), rfl⟩
end Go.Proofs.YtmgdljhamplgiaaDoor
