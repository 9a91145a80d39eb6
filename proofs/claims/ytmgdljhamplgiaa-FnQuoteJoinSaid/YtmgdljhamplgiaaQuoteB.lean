/- Walks: impl.QuoteMeta, quotes, Unquoted. -/
import Derived.Test.YtmgdljhamplgiaaQuote
namespace Go.Proofs.Ytmgdljhamplgiaa
open Go.RowKit
set_option linter.unusedVariables false

theorem quoteMeta_ascii (s : ByteArray) (w : World) (hs : s.size ≤ 35184372088832) (ha : Pat.asciiL s.data.toList = true) :
    Calls Try.prog 16 #[.string s] w fun e w' => e = .returned (.string ⟨(Pat.quoteL s.data.toList).toArray⟩) ∧ Below w.heap.size w w' := by
  have HA := Lib.hid ha
  clear ha
  go_enter Try.func16, Try.ntmps16
  go_wp2_with fail
  refine (pquoteMeta_ascii s _ _ hs HA.out).mono ?_
  rintro e w' ⟨rfl, hb⟩
  go_wp2_with fail
  go_ret
  exact ⟨rfl, hb⟩

theorem quotes_any (w : World) :
    Calls Try.prog 17 #[] w fun e w' => e = .returned (.bool true) ∧ Below w.heap.size w w' := by
  go_enter Try.func17, Try.ntmps17
  go_wp2_with fail
  refine (quoteMeta_ascii _ _ (by decide) (by decide)).mono ?_
  rintro e w' ⟨rfl, hb⟩
  rw [show Pat.quoteL (ByteArray.mk #[42]).data.toList = [92, 42] from by decide]
  go_wp2_with fail
  go_ret
  exact ⟨ret_bool (by decide), hb⟩

set_option maxHeartbeats 1000000 in
theorem unquoted_any (s : ByteArray) (w : World) (hs : s.size < 9223372036854775806) :
    Calls Try.prog 18 #[.string s] w fun e w' => e = .returned (.tuple #[.string ⟨(Pat.unqT s.data.toList).toArray⟩, .bool (Pat.unqB s.data.toList)]) ∧ w = w' := by
  go_enter Try.func18, Try.ntmps18
  go_wp2
  go_loop [2, 3, 4, 5] (fun r2 r3 out i => ∃ (k : Nat) (o : ByteArray), k ≤ s.size ∧ r2 = .string ⟨#[]⟩ ∧ r3 = .bool false ∧ i = .int .i64 k ∧ out = .string o ∧ o.size ≤ k ∧ Hid (Pat.unqE false s.data.toList = (Pat.unqE false (s.data.toList.drop k)).map (o.data.toList ++ ·))) (fun _ _ _ i => s.size - (intOf i).toNat)
  case atStart => exact ⟨0, ⟨#[]⟩, Nat.zero_le _, rfl, rfl, rfl, rfl, Nat.le_refl _, Lib.hid (by simp)⟩
  case round =>
    obtain ⟨k, o, hk, rfl, rfl, rfl, rfl, hok, H⟩ := hrel
    by_cases hlt : k < s.size
    · have HD := Lib.hid (Pat.drop_cons s k hlt)
      have HX := Lib.hid (Pat.extract_one s k hlt)
      have HZ0 := Lib.hid (Pat.extract_one_size s k hlt)
      rcases Pat.quoted_cases s[k] with ⟨k1, k2, k3, k4⟩ | k1 | ⟨k1, k2⟩ | ⟨k1, k2, k3⟩ | ⟨k1, k2, k3, k4⟩
      · have hadd : o.size + (s.extract k (k + 1)).size ≤ 9223372036854775807 := by rw [HZ0.out]; omega
        have HZ := HZ0
        go_wp2
        go_round
        case rel => exact ⟨k + 1, _, by omega, rfl, rfl, by go_num, rfl, by rw [ByteArray.size_append, HZ.out]; omega, Lib.hid (by rw [H.out, HD.out, Pat.unq_other k1 k2 k3 k4, Pat.map_step, Pat.data_app, HX.out])⟩
        case measure => simp [intOf]; omega
      · go_wp2
        go_ret2
        exact ⟨by simp [Pat.unqT, Pat.unqB, H.out, HD.out, Pat.unq_bad42 k1], rfl⟩
      · go_wp2
        go_ret2
        exact ⟨by simp [Pat.unqT, Pat.unqB, H.out, HD.out, Pat.unq_bad63 k2], rfl⟩
      · go_wp2
        go_ret2
        exact ⟨by simp [Pat.unqT, Pat.unqB, H.out, HD.out, Pat.unq_bad91 k3], rfl⟩
      · by_cases hend : k + 1 < s.size
        · have HD2 := Lib.hid (Pat.drop_cons s (k + 1) hend)
          have HX2 := Lib.hid (Pat.extract_one s (k + 1) hend)
          have hne : ((k : Int) + 1 == (s.size : Int)) = false := by simp; omega
          have HZ := Lib.hid (Pat.extract_one_size s (k + 1) hend)
          have hadd : o.size + (s.extract (k + 1) (k + 1 + 1)).size ≤ 9223372036854775807 := by rw [HZ.out]; omega
          go_wp2
          go_round
          case rel => exact ⟨k + 1 + 1, _, by omega, rfl, rfl, by go_num, rfl, by rw [ByteArray.size_append, HZ.out]; omega, Lib.hid (by rw [H.out, HD.out, HD2.out, Pat.unq_esc k4, Pat.map_step, Pat.data_app, HX2.out])⟩
          case measure => simp [intOf]; omega
        · have hne : ((k : Int) + 1 == (s.size : Int)) = true := by simp; omega
          have HD2 := Lib.hid (Pat.drop_end s (k + 1) (by omega))
          go_wp2
          go_ret2
          exact ⟨by simp [Pat.unqT, Pat.unqB, H.out, HD.out, HD2.out, Pat.unq_esc_end k4], rfl⟩
    · go_wp2
      go_ret2
      have HE := Pat.drop_end s k (by omega)
      exact ⟨by simp [Pat.unqT, Pat.unqB, H.out, HE, Pat.unqE], rfl⟩
end Go.Proofs.Ytmgdljhamplgiaa
