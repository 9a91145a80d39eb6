/- The walk of the law FnQuotePlain. -/
import Derived.Test.YtmgdljhamplgiaaLawsB
namespace Go.Proofs.Ytmgdljhamplgiaa
open Go.RowKit
set_option linter.unusedVariables false

theorem Pat.word_no {n : Nat} (h : Pat.wordI n = false) : ¬ ((48 ≤ n ∧ n ≤ 57) ∨ (97 ≤ n ∧ n ≤ 122) ∨ (65 ≤ n ∧ n ≤ 90) ∨ n = 95) := by
  simp [Pat.wordI, Pat.letterI] at h; omega

set_option maxHeartbeats 2000000 in
theorem walk_FnQuotePlain (s : ByteArray) (w : World) (hs : s.size ≤ maxLen) :
    Calls Try.prog 8 #[.string s] w fun e w' => e = .returned (.bool true) ∧ Below w.heap.size w w' := by
  unfold maxLen at hs
  by_cases h1 : s.size ≤ 2147483647
  · have HP : Hid (∀ w : World, Pat.wordL s.data.toList = true → Calls Try.prog 16 #[.string s] w fun e w' => e = .returned (.string s) ∧ Below w.heap.size w w') := Lib.hid (fun w h => by
      have := quoteMeta_ascii s w (by omega) (Pat.word_ascii _ h)
      rwa [Pat.word_quote _ h, Pat.bytes_eta] at this)
    go_enter Try.func8, Try.ntmps8
    go_wp2
    go_loop [3] (fun i => ∃ k : Nat, k ≤ s.size ∧ i = .int .i64 k ∧ Hid (Pat.wordL (s.data.toList.take k) = true)) (fun i => s.size - (intOf i).toNat)
    case atStart => exact ⟨0, Nat.zero_le _, rfl, Lib.hid rfl⟩
    case round =>
      obtain ⟨k, hk, rfl, H⟩ := hrel
      by_cases hlt : k < s.size
      · have HD := Lib.hid (Pat.take_snoc s k hlt)
        cases hw : Pat.wordI (s[k].toNat : Int)
        · have hr := Pat.word_no hw
          clear hw
          have hne : ((s[k].toNat : Int) != 95) = true := by rw [bne_iff_ne]; omega
          have hr2 : s[k].toNat < 48 ∨ (57 < s[k].toNat ∧ s[k].toNat < 65) ∨ (90 < s[k].toNat ∧ s[k].toNat < 97) ∨ 122 < s[k].toNat := by omega
          clear hr
          rcases hr2 with h | ⟨h, h'⟩ | ⟨h, h'⟩ | h
          all_goals (go_wp2; go_ret; exact ⟨rfl, Below.refl _ _⟩)
        · have hr := Pat.word_range hw
          have HW := Lib.hid hw
          clear hw
          go_wp2
          all_goals
            go_round
            case rel => exact ⟨k + 1, by omega, by go_num, Lib.hid (by rw [HD.out]; have h1 := H.out; have h2 := HW.out; simp only [Pat.wordL, List.all_append] at h1 ⊢; simp [h1, h2])⟩
            case measure => simp [intOf]; omega
      · have HW : Hid (Pat.wordL s.data.toList = true) := Lib.hid (by have := H.out; rwa [Pat.take_all s k (by omega)] at this)
        go_wp2_with fail
        refine (HP.out _ HW.out).mono ?_; rintro e w1 ⟨rfl, hb1⟩
        go_wp2_with fail
        refine (quotes_any _).mono ?_; rintro e w2 ⟨rfl, hb2⟩
        go_wp2_with fail
        go_ret
        exact ⟨rfl, below_step hb1 hb2⟩
  · go_enter Try.func8, Try.ntmps8
    go_wp2_with fail
    go_ret
    exact ⟨rfl, Below.refl _ _⟩
end Go.Proofs.Ytmgdljhamplgiaa
