/- Walks: TextOk, safe, itemOk. -/
import Derived.Test.YtmgdljhamplgiaaDoorChecked
import Derived.Test.YtmgdljhamplgiaaDoorWalkA
import Derived.Test.YtmgdljhamplgiaaDoorPieces
import Derived.Lib.SmallJoins
namespace Go.Proofs.YtmgdljhamplgiaaDoor
open Go.ChangeShapes Go.WideShapes Go.ChangeAt Go.RowKit
set_option linter.unusedVariables false

set_option maxHeartbeats 400000 in
theorem textOk_any (s : ByteArray) (w : World) (hs : s.size ≤ maxLen) :
    Calls Tryd.prog 9 #[.string s] w fun e w' => e = .returned (.bool (Pat.textL s.data.toList)) ∧ w = w' := by
  unfold maxLen at hs
  go_enter Tryd.func9, Tryd.ntmps9
  go_wp2
  go_loop [3] (fun i => ∃ k : Nat, k ≤ s.size ∧ i = .int .i64 k ∧ Hid (Pat.textL s.data.toList = Pat.textL (s.data.toList.drop k))) (fun i => s.size - (intOf i).toNat)
  case atStart => exact ⟨0, Nat.zero_le _, rfl, Lib.hid rfl⟩
  case round =>
    obtain ⟨k, hk, rfl, H⟩ := hrel
    by_cases hlt : k < s.size
    · have HD := Lib.hid (Pat.drop_cons s k hlt)
      by_cases h1 : s[k].toNat < 32
      · go_wp2
        go_ret
        exact ⟨ret_bool (by rw [H.out, HD.out]; simp [Pat.textL]; omega), rfl⟩
      · by_cases h2 : 126 < s[k].toNat
        · go_wp2
          go_ret
          exact ⟨ret_bool (by rw [H.out, HD.out]; simp [Pat.textL]; omega), rfl⟩
        · go_wp2
          go_round
          case rel => exact ⟨k + 1, by omega, by go_num, Lib.hid (by rw [H.out, HD.out]; simp [Pat.textL]; omega)⟩
          case measure => simp [intOf]; omega
    · go_wp2
      go_ret
      exact ⟨ret_bool (by rw [H.out, Pat.drop_end s k (by omega)]; rfl), rfl⟩

set_option maxHeartbeats 1000000 in
theorem safe_any (n : Int) (w : World) : Calls Tryd.prog 12 #[.int .u8 n] w fun e w' => e = .returned (.bool (Pat.safeI n)) ∧ w = w' := by
  go_enter Tryd.func12, Tryd.ntmps12
  go_wp2_with (go_at_call 13; refine (letter_any _ _).mono ?_; rintro e w' ⟨rfl, rfl⟩)
  all_goals go_ret
  all_goals exact ⟨ret_bool (by simp [Pat.safeI, *]), rfl⟩

set_option maxHeartbeats 1000000 in
theorem itemOk_any (i : It) (w : World) : Calls Tryd.prog 10 #[.agg #[.int .i64 i.cls, .int .u8 i.lo, .int .u8 i.hi]] w fun e w' => e = .returned (.bool (Pat.itemI i)) ∧ Below w.heap.size w w' := by
  by_cases h0 : i.cls = 0
  · have hc : (i.cls != 0) = false := by simp [h0]
    have H0 := Lib.hid h0
    clear h0
    go_enter Tryd.func10, Tryd.ntmps10
    go_wp2_with (go_at_call 12; refine (safe_any _ _).mono ?_; rintro e w' ⟨rfl, rfl⟩)
    all_goals go_ret
    all_goals refine ⟨ret_bool ?_, (Below.refl _ _).alloc (Nat.le_refl _) _⟩
    all_goals unfold Pat.itemI; rw [if_pos H0.out]
    all_goals clear H0 hc
    all_goals (try rw [show i.lo = i.hi from by assumption])
    all_goals (generalize Pat.safeI i.hi = sf at *; generalize Pat.safeI i.lo = sl at *; cases sf <;> cases sl <;> rw [Bool.eq_iff_iff] <;> simp at * <;> omega)
  · have hc : (i.cls != 0) = true := by simp [h0]
    go_enter Tryd.func10, Tryd.ntmps10
    go_wp2
    all_goals go_ret
    all_goals exact ⟨ret_bool (by rw [Bool.eq_iff_iff]; simp [Pat.itemI, h0]; omega), (Below.refl _ _).alloc (Nat.le_refl _) _⟩
end Go.Proofs.YtmgdljhamplgiaaDoor
