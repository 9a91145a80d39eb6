/- The walks of the laws FnHasMetaStar, FnHasMetaAny, FnHasMetaQuoted. -/
import Derived.Test.YtmgdljhamplgiaaWalkA
import Derived.Below
namespace Go.Proofs.Ytmgdljhamplgiaa
open Go.ChangeShapes Go.WideShapes Go.ChangeAt Go.RowKit
set_option linter.unusedVariables false

set_option maxHeartbeats 400000 in
theorem walk_FnHasMetaAny (a b : ByteArray) (w : World) (ha : a.size ≤ maxLen) (hb : b.size ≤ maxLen) :
    Calls Try.prog 3 #[.string a, .string b] w fun e w' => e = .returned (.bool true) ∧ Below w.heap.size w w' := by
  have hwa := wordOk_any a w ha
  have hwb := wordOk_any b w hb
  unfold maxLen at ha hb
  by_cases h1 : a.size ≤ 2147483647
  · by_cases h2 : b.size ≤ 2147483647
    · cases h3 : Pat.wordL a.data.toList
      · rw [h3] at hwa
        have Ha := Lib.hid hwa
        clear hwa hwb h3
        go_enter Try.func3, Try.ntmps3
        go_wp2_with (go_at_call 12; refine (Ha.out).mono ?_; rintro e w' ⟨rfl, rfl⟩)
        go_ret
        exact ⟨rfl, Below.refl _ _⟩
      · rw [h3] at hwa
        have Ha := Lib.hid hwa
        have H3 := Lib.hid h3
        cases h4 : Pat.wordL b.data.toList
        · rw [h4] at hwb
          have Hb := Lib.hid hwb
          clear hwa hwb h3 h4
          go_enter Try.func3, Try.ntmps3
          go_wp2_with fail
          refine (Ha.out).mono ?_; rintro e w' ⟨rfl, rfl⟩
          go_wp2_with fail
          refine (Hb.out).mono ?_; rintro e w' ⟨rfl, rfl⟩
          go_wp2_with fail
          go_ret
          exact ⟨rfl, Below.refl _ _⟩
        · rw [h4] at hwb
          have Hb := Lib.hid hwb
          have H4 := Lib.hid h4
          have hm := hasMeta_any (a ++ { data := #[63] } ++ b) w (Pat.size_mid _ _ _ h1 h2 (by decide))
          rw [Pat.data_app, Pat.data_app, show (ByteArray.mk #[63]).data.toList = [63] from rfl, Pat.meta_law_any _ _ H3.out] at hm
          have Hm := Lib.hid hm
          clear hwa hwb h3 h4 hm
          go_enter Try.func3, Try.ntmps3
          go_wp2_with fail
          refine (Ha.out).mono ?_; rintro e w' ⟨rfl, rfl⟩
          go_wp2_with fail
          refine (Hb.out).mono ?_; rintro e w' ⟨rfl, rfl⟩
          go_wp2_with fail
          refine (Hm.out).mono ?_; rintro e w' ⟨rfl, rfl⟩
          go_wp2_with fail
          refine (metas_any _).mono ?_; rintro e w' ⟨rfl, rfl⟩
          go_wp2_with fail
          go_ret
          exact ⟨rfl, Below.refl _ _⟩
    · clear hwa hwb
      go_enter Try.func3, Try.ntmps3
      go_wp2_with fail
      go_ret
      exact ⟨rfl, Below.refl _ _⟩
  · clear hwa hwb
    go_enter Try.func3, Try.ntmps3
    go_wp2_with fail
    go_ret
    exact ⟨rfl, Below.refl _ _⟩

set_option maxHeartbeats 400000 in
theorem walk_FnHasMetaStar (a b : ByteArray) (w : World) (ha : a.size ≤ maxLen) (hb : b.size ≤ maxLen) :
    Calls Try.prog 5 #[.string a, .string b] w fun e w' => e = .returned (.bool true) ∧ Below w.heap.size w w' := by
  have hwa := wordOk_any a w ha
  have hwb := wordOk_any b w hb
  unfold maxLen at ha hb
  by_cases h1 : a.size ≤ 2147483647
  · by_cases h2 : b.size ≤ 2147483647
    · cases h3 : Pat.wordL a.data.toList
      · rw [h3] at hwa
        have Ha := Lib.hid hwa
        clear hwa hwb h3
        go_enter Try.func5, Try.ntmps5
        go_wp2_with (go_at_call 12; refine (Ha.out).mono ?_; rintro e w' ⟨rfl, rfl⟩)
        go_ret
        exact ⟨rfl, Below.refl _ _⟩
      · rw [h3] at hwa
        have Ha := Lib.hid hwa
        have H3 := Lib.hid h3
        cases h4 : Pat.wordL b.data.toList
        · rw [h4] at hwb
          have Hb := Lib.hid hwb
          clear hwa hwb h3 h4
          go_enter Try.func5, Try.ntmps5
          go_wp2_with fail
          refine (Ha.out).mono ?_; rintro e w' ⟨rfl, rfl⟩
          go_wp2_with fail
          refine (Hb.out).mono ?_; rintro e w' ⟨rfl, rfl⟩
          go_wp2_with fail
          go_ret
          exact ⟨rfl, Below.refl _ _⟩
        · rw [h4] at hwb
          have Hb := Lib.hid hwb
          have H4 := Lib.hid h4
          have hm := hasMeta_any (a ++ { data := #[42] } ++ b) w (Pat.size_mid _ _ _ h1 h2 (by decide))
          rw [Pat.data_app, Pat.data_app, show (ByteArray.mk #[42]).data.toList = [42] from rfl, Pat.meta_law_star _ _ H3.out] at hm
          have Hm := Lib.hid hm
          clear hwa hwb h3 h4 hm
          go_enter Try.func5, Try.ntmps5
          go_wp2_with fail
          refine (Ha.out).mono ?_; rintro e w' ⟨rfl, rfl⟩
          go_wp2_with fail
          refine (Hb.out).mono ?_; rintro e w' ⟨rfl, rfl⟩
          go_wp2_with fail
          refine (Hm.out).mono ?_; rintro e w' ⟨rfl, rfl⟩
          go_wp2_with fail
          refine (metas_any _).mono ?_; rintro e w' ⟨rfl, rfl⟩
          go_wp2_with fail
          go_ret
          exact ⟨rfl, Below.refl _ _⟩
    · clear hwa hwb
      go_enter Try.func5, Try.ntmps5
      go_wp2_with fail
      go_ret
      exact ⟨rfl, Below.refl _ _⟩
  · clear hwa hwb
    go_enter Try.func5, Try.ntmps5
    go_wp2_with fail
    go_ret
    exact ⟨rfl, Below.refl _ _⟩

set_option maxHeartbeats 400000 in
theorem walk_FnHasMetaQuoted (a b : ByteArray) (w : World) (ha : a.size ≤ maxLen) (hb : b.size ≤ maxLen) :
    Calls Try.prog 4 #[.string a, .string b] w fun e w' => e = .returned (.bool true) ∧ Below w.heap.size w w' := by
  have hwa := wordOk_any a w ha
  have hwb := wordOk_any b w hb
  unfold maxLen at ha hb
  by_cases h1 : a.size ≤ 2147483647
  · by_cases h2 : b.size ≤ 2147483647
    · cases h3 : Pat.wordL a.data.toList
      · rw [h3] at hwa
        have Ha := Lib.hid hwa
        clear hwa hwb h3
        go_enter Try.func4, Try.ntmps4
        go_wp2_with (go_at_call 12; refine (Ha.out).mono ?_; rintro e w' ⟨rfl, rfl⟩)
        go_ret
        exact ⟨rfl, Below.refl _ _⟩
      · rw [h3] at hwa
        have Ha := Lib.hid hwa
        have H3 := Lib.hid h3
        cases h4 : Pat.wordL b.data.toList
        · rw [h4] at hwb
          have Hb := Lib.hid hwb
          clear hwa hwb h3 h4
          go_enter Try.func4, Try.ntmps4
          go_wp2_with fail
          refine (Ha.out).mono ?_; rintro e w' ⟨rfl, rfl⟩
          go_wp2_with fail
          refine (Hb.out).mono ?_; rintro e w' ⟨rfl, rfl⟩
          go_wp2_with fail
          go_ret
          exact ⟨rfl, Below.refl _ _⟩
        · rw [h4] at hwb
          have Hb := Lib.hid hwb
          have H4 := Lib.hid h4
          have hm := hasMeta_any (a ++ { data := #[92, 42] } ++ b) w (Pat.size_mid _ _ _ h1 h2 (by decide))
          rw [Pat.data_app, Pat.data_app, show (ByteArray.mk #[92, 42]).data.toList = [92, 42] from rfl, Pat.meta_law_quoted _ _ H3.out H4.out] at hm
          have Hm := Lib.hid hm
          clear hwa hwb h3 h4 hm
          go_enter Try.func4, Try.ntmps4
          go_wp2_with fail
          refine (Ha.out).mono ?_; rintro e w' ⟨rfl, rfl⟩
          go_wp2_with fail
          refine (Hb.out).mono ?_; rintro e w' ⟨rfl, rfl⟩
          go_wp2_with fail
          refine (Hm.out).mono ?_; rintro e w' ⟨rfl, rfl⟩
          go_wp2_with fail
          refine (metas_any _).mono ?_; rintro e w' ⟨rfl, rfl⟩
          go_wp2_with fail
          go_ret
          exact ⟨rfl, Below.refl _ _⟩
    · clear hwa hwb
      go_enter Try.func4, Try.ntmps4
      go_wp2_with fail
      go_ret
      exact ⟨rfl, Below.refl _ _⟩
  · clear hwa hwb
    go_enter Try.func4, Try.ntmps4
    go_wp2_with fail
    go_ret
    exact ⟨rfl, Below.refl _ _⟩
end Go.Proofs.Ytmgdljhamplgiaa
