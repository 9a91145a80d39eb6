/- Joined by pack.py: InC. -/
import Derived.Test.YtonifkkdokaooaaFmtP01
/- Walk: InClass. Printed by gen_inc.py. -/
namespace Go.Proofs.YtonifkkdokaooaaFmt
open Go.RowKit
set_option linter.unusedVariables false

def dgB (c : Nat) : Bool := decide (48 ≤ c) && decide (c ≤ 57)
def loB (c : Nat) : Bool := decide (97 ≤ c) && decide (c ≤ 122)
def upB (c : Nat) : Bool := decide (65 ≤ c) && decide (c ≤ 90)
/-- the bytes of the classes -/
def inB : Nat → Nat → Bool
  | 1, c => dgB c || loB c || upB c
  | 2, c => loB c || upB c
  | 3, c => c == 32 || c == 9
  | 4, c => decide (c < 32) || c == 127
  | 5, c => dgB c
  | 6, c => decide (32 < c) && decide (c < 127)
  | 7, c => loB c
  | 8, c => decide (32 ≤ c) && decide (c < 127)
  | 9, c => decide (32 < c) && decide (c < 127) && !dgB c && !loB c && !upB c
  | 10, c => c == 32 || (decide (9 ≤ c) && decide (c ≤ 13))
  | 11, c => upB c
  | 12, c => dgB c || (decide (97 ≤ c) && decide (c ≤ 102)) || (decide (65 ≤ c) && decide (c ≤ 70))
  | _, _ => false
theorem ret_b {a b : Bool} (h : a = b) : Ending.returned (.bool a) = .returned (.bool b) := by rw [h]
theorem inB_0 (c : Nat) : inB 0 c = true ↔ False := by simp [inB]
theorem inB_1 (c : Nat) : inB 1 c = true ↔ (48 ≤ c ∧ c ≤ 57) ∨ (97 ≤ c ∧ c ≤ 122) ∨ (65 ≤ c ∧ c ≤ 90) := by simp [inB, dgB, loB, upB] <;> omega
theorem inB_2 (c : Nat) : inB 2 c = true ↔ (97 ≤ c ∧ c ≤ 122) ∨ (65 ≤ c ∧ c ≤ 90) := by simp [inB, loB, upB]
theorem inB_3 (c : Nat) : inB 3 c = true ↔ c = 32 ∨ c = 9 := by simp [inB]
theorem inB_4 (c : Nat) : inB 4 c = true ↔ c < 32 ∨ c = 127 := by simp [inB]
theorem inB_5 (c : Nat) : inB 5 c = true ↔ 48 ≤ c ∧ c ≤ 57 := by simp [inB, dgB]
theorem inB_6 (c : Nat) : inB 6 c = true ↔ 32 < c ∧ c < 127 := by simp [inB]
theorem inB_7 (c : Nat) : inB 7 c = true ↔ 97 ≤ c ∧ c ≤ 122 := by simp [inB, loB]
theorem inB_8 (c : Nat) : inB 8 c = true ↔ 32 ≤ c ∧ c < 127 := by simp [inB]
theorem inB_9 (c : Nat) : inB 9 c = true ↔ 32 < c ∧ c < 127 ∧ (c < 48 ∨ 57 < c) ∧ (c < 97 ∨ 122 < c) ∧ (c < 65 ∨ 90 < c) := by simp [inB, dgB, loB, upB] <;> omega
theorem inB_10 (c : Nat) : inB 10 c = true ↔ c = 32 ∨ (9 ≤ c ∧ c ≤ 13) := by simp [inB]
theorem inB_11 (c : Nat) : inB 11 c = true ↔ 65 ≤ c ∧ c ≤ 90 := by simp [inB, upB]
theorem inB_12 (c : Nat) : inB 12 c = true ↔ (48 ≤ c ∧ c ≤ 57) ∨ (97 ≤ c ∧ c ≤ 102) ∨ (65 ≤ c ∧ c ≤ 70) := by simp [inB, dgB] <;> omega

set_option maxHeartbeats 4000000 in
set_option maxRecDepth 100000 in
theorem inClass_0 (c : Nat) (w : World) : Calls Tryf.prog 19 #[.int .i64 0, .int .u8 c] w fun e w' => e = .returned (.bool (inB 0 c)) ∧ w = w' := by
  have iv : c < 48 ∨ (48 ≤ c ∧ c ≤ 57) ∨ (57 < c ∧ c < 65) ∨ (65 ≤ c ∧ c ≤ 90) ∨ (90 < c ∧ c < 97) ∨ (97 ≤ c ∧ c ≤ 122) ∨ 122 < c := by omega
  rcases iv with h | ⟨h, h'⟩ | ⟨h, h'⟩ | ⟨h, h'⟩ | ⟨h, h'⟩ | ⟨h, h'⟩ | h
  · have d0 : decide ((48 : Int) ≤ (c : Int)) = false := by simp <;> omega
    have d2 : decide ((97 : Int) ≤ (c : Int)) = false := by simp <;> omega
    have d4 : decide ((65 : Int) ≤ (c : Int)) = false := by simp <;> omega
    go_enter Tryf.func19, Tryf.ntmps19
    go_wp2
    all_goals go_ret
    all_goals exact ⟨ret_b (by rw [Bool.eq_iff_iff, inB_0]; first | (constructor <;> intro h9 <;> first | rfl | omega | (exfalso; first | omega | exact absurd h9 (by decide))) | (simp; omega)), rfl⟩
  · have d0 : decide ((48 : Int) ≤ (c : Int)) = true := by simp <;> omega
    have d1 : decide ((c : Int) ≤ 57) = true := by simp <;> omega
    have d2 : decide ((97 : Int) ≤ (c : Int)) = false := by simp <;> omega
    have d4 : decide ((65 : Int) ≤ (c : Int)) = false := by simp <;> omega
    go_enter Tryf.func19, Tryf.ntmps19
    go_wp2
    all_goals go_ret
    all_goals exact ⟨ret_b (by rw [Bool.eq_iff_iff, inB_0]; first | (constructor <;> intro h9 <;> first | rfl | omega | (exfalso; first | omega | exact absurd h9 (by decide))) | (simp; omega)), rfl⟩
  · have d0 : decide ((48 : Int) ≤ (c : Int)) = true := by simp <;> omega
    have d1 : decide ((c : Int) ≤ 57) = false := by simp <;> omega
    have d2 : decide ((97 : Int) ≤ (c : Int)) = false := by simp <;> omega
    have d4 : decide ((65 : Int) ≤ (c : Int)) = false := by simp <;> omega
    go_enter Tryf.func19, Tryf.ntmps19
    go_wp2
    all_goals go_ret
    all_goals exact ⟨ret_b (by rw [Bool.eq_iff_iff, inB_0]; first | (constructor <;> intro h9 <;> first | rfl | omega | (exfalso; first | omega | exact absurd h9 (by decide))) | (simp; omega)), rfl⟩
  · have d0 : decide ((48 : Int) ≤ (c : Int)) = true := by simp <;> omega
    have d1 : decide ((c : Int) ≤ 57) = false := by simp <;> omega
    have d2 : decide ((97 : Int) ≤ (c : Int)) = false := by simp <;> omega
    have d4 : decide ((65 : Int) ≤ (c : Int)) = true := by simp <;> omega
    have d5 : decide ((c : Int) ≤ 90) = true := by simp <;> omega
    go_enter Tryf.func19, Tryf.ntmps19
    go_wp2
    all_goals go_ret
    all_goals exact ⟨ret_b (by rw [Bool.eq_iff_iff, inB_0]; first | (constructor <;> intro h9 <;> first | rfl | omega | (exfalso; first | omega | exact absurd h9 (by decide))) | (simp; omega)), rfl⟩
  · have d0 : decide ((48 : Int) ≤ (c : Int)) = true := by simp <;> omega
    have d1 : decide ((c : Int) ≤ 57) = false := by simp <;> omega
    have d2 : decide ((97 : Int) ≤ (c : Int)) = false := by simp <;> omega
    have d4 : decide ((65 : Int) ≤ (c : Int)) = true := by simp <;> omega
    have d5 : decide ((c : Int) ≤ 90) = false := by simp <;> omega
    go_enter Tryf.func19, Tryf.ntmps19
    go_wp2
    all_goals go_ret
    all_goals exact ⟨ret_b (by rw [Bool.eq_iff_iff, inB_0]; first | (constructor <;> intro h9 <;> first | rfl | omega | (exfalso; first | omega | exact absurd h9 (by decide))) | (simp; omega)), rfl⟩
  · have d0 : decide ((48 : Int) ≤ (c : Int)) = true := by simp <;> omega
    have d1 : decide ((c : Int) ≤ 57) = false := by simp <;> omega
    have d2 : decide ((97 : Int) ≤ (c : Int)) = true := by simp <;> omega
    have d3 : decide ((c : Int) ≤ 122) = true := by simp <;> omega
    have d4 : decide ((65 : Int) ≤ (c : Int)) = true := by simp <;> omega
    have d5 : decide ((c : Int) ≤ 90) = false := by simp <;> omega
    go_enter Tryf.func19, Tryf.ntmps19
    go_wp2
    all_goals go_ret
    all_goals exact ⟨ret_b (by rw [Bool.eq_iff_iff, inB_0]; first | (constructor <;> intro h9 <;> first | rfl | omega | (exfalso; first | omega | exact absurd h9 (by decide))) | (simp; omega)), rfl⟩
  · have d0 : decide ((48 : Int) ≤ (c : Int)) = true := by simp <;> omega
    have d1 : decide ((c : Int) ≤ 57) = false := by simp <;> omega
    have d2 : decide ((97 : Int) ≤ (c : Int)) = true := by simp <;> omega
    have d3 : decide ((c : Int) ≤ 122) = false := by simp <;> omega
    have d4 : decide ((65 : Int) ≤ (c : Int)) = true := by simp <;> omega
    have d5 : decide ((c : Int) ≤ 90) = false := by simp <;> omega
    go_enter Tryf.func19, Tryf.ntmps19
    go_wp2
    all_goals go_ret
    all_goals exact ⟨ret_b (by rw [Bool.eq_iff_iff, inB_0]; first | (constructor <;> intro h9 <;> first | rfl | omega | (exfalso; first | omega | exact absurd h9 (by decide))) | (simp; omega)), rfl⟩
set_option maxHeartbeats 4000000 in
set_option maxRecDepth 100000 in
theorem inClass_1 (c : Nat) (w : World) : Calls Tryf.prog 19 #[.int .i64 1, .int .u8 c] w fun e w' => e = .returned (.bool (inB 1 c)) ∧ w = w' := by
  have iv : c < 48 ∨ (48 ≤ c ∧ c ≤ 57) ∨ (57 < c ∧ c < 65) ∨ (65 ≤ c ∧ c ≤ 90) ∨ (90 < c ∧ c < 97) ∨ (97 ≤ c ∧ c ≤ 122) ∨ 122 < c := by omega
  rcases iv with h | ⟨h, h'⟩ | ⟨h, h'⟩ | ⟨h, h'⟩ | ⟨h, h'⟩ | ⟨h, h'⟩ | h
  · have d0 : decide ((48 : Int) ≤ (c : Int)) = false := by simp <;> omega
    have d2 : decide ((97 : Int) ≤ (c : Int)) = false := by simp <;> omega
    have d4 : decide ((65 : Int) ≤ (c : Int)) = false := by simp <;> omega
    go_enter Tryf.func19, Tryf.ntmps19
    go_wp2
    all_goals go_ret
    all_goals exact ⟨ret_b (by rw [Bool.eq_iff_iff, inB_1]; first | (constructor <;> intro h9 <;> first | rfl | omega | (exfalso; first | omega | exact absurd h9 (by decide))) | (simp; omega)), rfl⟩
  · have d0 : decide ((48 : Int) ≤ (c : Int)) = true := by simp <;> omega
    have d1 : decide ((c : Int) ≤ 57) = true := by simp <;> omega
    have d2 : decide ((97 : Int) ≤ (c : Int)) = false := by simp <;> omega
    have d4 : decide ((65 : Int) ≤ (c : Int)) = false := by simp <;> omega
    go_enter Tryf.func19, Tryf.ntmps19
    go_wp2
    all_goals go_ret
    all_goals exact ⟨ret_b (by rw [Bool.eq_iff_iff, inB_1]; first | (constructor <;> intro h9 <;> first | rfl | omega | (exfalso; first | omega | exact absurd h9 (by decide))) | (simp; omega)), rfl⟩
  · have d0 : decide ((48 : Int) ≤ (c : Int)) = true := by simp <;> omega
    have d1 : decide ((c : Int) ≤ 57) = false := by simp <;> omega
    have d2 : decide ((97 : Int) ≤ (c : Int)) = false := by simp <;> omega
    have d4 : decide ((65 : Int) ≤ (c : Int)) = false := by simp <;> omega
    go_enter Tryf.func19, Tryf.ntmps19
    go_wp2
    all_goals go_ret
    all_goals exact ⟨ret_b (by rw [Bool.eq_iff_iff, inB_1]; first | (constructor <;> intro h9 <;> first | rfl | omega | (exfalso; first | omega | exact absurd h9 (by decide))) | (simp; omega)), rfl⟩
  · have d0 : decide ((48 : Int) ≤ (c : Int)) = true := by simp <;> omega
    have d1 : decide ((c : Int) ≤ 57) = false := by simp <;> omega
    have d2 : decide ((97 : Int) ≤ (c : Int)) = false := by simp <;> omega
    have d4 : decide ((65 : Int) ≤ (c : Int)) = true := by simp <;> omega
    have d5 : decide ((c : Int) ≤ 90) = true := by simp <;> omega
    go_enter Tryf.func19, Tryf.ntmps19
    go_wp2
    all_goals go_ret
    all_goals exact ⟨ret_b (by rw [Bool.eq_iff_iff, inB_1]; first | (constructor <;> intro h9 <;> first | rfl | omega | (exfalso; first | omega | exact absurd h9 (by decide))) | (simp; omega)), rfl⟩
  · have d0 : decide ((48 : Int) ≤ (c : Int)) = true := by simp <;> omega
    have d1 : decide ((c : Int) ≤ 57) = false := by simp <;> omega
    have d2 : decide ((97 : Int) ≤ (c : Int)) = false := by simp <;> omega
    have d4 : decide ((65 : Int) ≤ (c : Int)) = true := by simp <;> omega
    have d5 : decide ((c : Int) ≤ 90) = false := by simp <;> omega
    go_enter Tryf.func19, Tryf.ntmps19
    go_wp2
    all_goals go_ret
    all_goals exact ⟨ret_b (by rw [Bool.eq_iff_iff, inB_1]; first | (constructor <;> intro h9 <;> first | rfl | omega | (exfalso; first | omega | exact absurd h9 (by decide))) | (simp; omega)), rfl⟩
  · have d0 : decide ((48 : Int) ≤ (c : Int)) = true := by simp <;> omega
    have d1 : decide ((c : Int) ≤ 57) = false := by simp <;> omega
    have d2 : decide ((97 : Int) ≤ (c : Int)) = true := by simp <;> omega
    have d3 : decide ((c : Int) ≤ 122) = true := by simp <;> omega
    have d4 : decide ((65 : Int) ≤ (c : Int)) = true := by simp <;> omega
    have d5 : decide ((c : Int) ≤ 90) = false := by simp <;> omega
    go_enter Tryf.func19, Tryf.ntmps19
    go_wp2
    all_goals go_ret
    all_goals exact ⟨ret_b (by rw [Bool.eq_iff_iff, inB_1]; first | (constructor <;> intro h9 <;> first | rfl | omega | (exfalso; first | omega | exact absurd h9 (by decide))) | (simp; omega)), rfl⟩
  · have d0 : decide ((48 : Int) ≤ (c : Int)) = true := by simp <;> omega
    have d1 : decide ((c : Int) ≤ 57) = false := by simp <;> omega
    have d2 : decide ((97 : Int) ≤ (c : Int)) = true := by simp <;> omega
    have d3 : decide ((c : Int) ≤ 122) = false := by simp <;> omega
    have d4 : decide ((65 : Int) ≤ (c : Int)) = true := by simp <;> omega
    have d5 : decide ((c : Int) ≤ 90) = false := by simp <;> omega
    go_enter Tryf.func19, Tryf.ntmps19
    go_wp2
    all_goals go_ret
    all_goals exact ⟨ret_b (by rw [Bool.eq_iff_iff, inB_1]; first | (constructor <;> intro h9 <;> first | rfl | omega | (exfalso; first | omega | exact absurd h9 (by decide))) | (simp; omega)), rfl⟩
set_option maxHeartbeats 4000000 in
set_option maxRecDepth 100000 in
theorem inClass_2 (c : Nat) (w : World) : Calls Tryf.prog 19 #[.int .i64 2, .int .u8 c] w fun e w' => e = .returned (.bool (inB 2 c)) ∧ w = w' := by
  have iv : c < 48 ∨ (48 ≤ c ∧ c ≤ 57) ∨ (57 < c ∧ c < 65) ∨ (65 ≤ c ∧ c ≤ 90) ∨ (90 < c ∧ c < 97) ∨ (97 ≤ c ∧ c ≤ 122) ∨ 122 < c := by omega
  rcases iv with h | ⟨h, h'⟩ | ⟨h, h'⟩ | ⟨h, h'⟩ | ⟨h, h'⟩ | ⟨h, h'⟩ | h
  · have d0 : decide ((48 : Int) ≤ (c : Int)) = false := by simp <;> omega
    have d2 : decide ((97 : Int) ≤ (c : Int)) = false := by simp <;> omega
    have d4 : decide ((65 : Int) ≤ (c : Int)) = false := by simp <;> omega
    go_enter Tryf.func19, Tryf.ntmps19
    go_wp2
    all_goals go_ret
    all_goals exact ⟨ret_b (by rw [Bool.eq_iff_iff, inB_2]; first | (constructor <;> intro h9 <;> first | rfl | omega | (exfalso; first | omega | exact absurd h9 (by decide))) | (simp; omega)), rfl⟩
  · have d0 : decide ((48 : Int) ≤ (c : Int)) = true := by simp <;> omega
    have d1 : decide ((c : Int) ≤ 57) = true := by simp <;> omega
    have d2 : decide ((97 : Int) ≤ (c : Int)) = false := by simp <;> omega
    have d4 : decide ((65 : Int) ≤ (c : Int)) = false := by simp <;> omega
    go_enter Tryf.func19, Tryf.ntmps19
    go_wp2
    all_goals go_ret
    all_goals exact ⟨ret_b (by rw [Bool.eq_iff_iff, inB_2]; first | (constructor <;> intro h9 <;> first | rfl | omega | (exfalso; first | omega | exact absurd h9 (by decide))) | (simp; omega)), rfl⟩
  · have d0 : decide ((48 : Int) ≤ (c : Int)) = true := by simp <;> omega
    have d1 : decide ((c : Int) ≤ 57) = false := by simp <;> omega
    have d2 : decide ((97 : Int) ≤ (c : Int)) = false := by simp <;> omega
    have d4 : decide ((65 : Int) ≤ (c : Int)) = false := by simp <;> omega
    go_enter Tryf.func19, Tryf.ntmps19
    go_wp2
    all_goals go_ret
    all_goals exact ⟨ret_b (by rw [Bool.eq_iff_iff, inB_2]; first | (constructor <;> intro h9 <;> first | rfl | omega | (exfalso; first | omega | exact absurd h9 (by decide))) | (simp; omega)), rfl⟩
  · have d0 : decide ((48 : Int) ≤ (c : Int)) = true := by simp <;> omega
    have d1 : decide ((c : Int) ≤ 57) = false := by simp <;> omega
    have d2 : decide ((97 : Int) ≤ (c : Int)) = false := by simp <;> omega
    have d4 : decide ((65 : Int) ≤ (c : Int)) = true := by simp <;> omega
    have d5 : decide ((c : Int) ≤ 90) = true := by simp <;> omega
    go_enter Tryf.func19, Tryf.ntmps19
    go_wp2
    all_goals go_ret
    all_goals exact ⟨ret_b (by rw [Bool.eq_iff_iff, inB_2]; first | (constructor <;> intro h9 <;> first | rfl | omega | (exfalso; first | omega | exact absurd h9 (by decide))) | (simp; omega)), rfl⟩
  · have d0 : decide ((48 : Int) ≤ (c : Int)) = true := by simp <;> omega
    have d1 : decide ((c : Int) ≤ 57) = false := by simp <;> omega
    have d2 : decide ((97 : Int) ≤ (c : Int)) = false := by simp <;> omega
    have d4 : decide ((65 : Int) ≤ (c : Int)) = true := by simp <;> omega
    have d5 : decide ((c : Int) ≤ 90) = false := by simp <;> omega
    go_enter Tryf.func19, Tryf.ntmps19
    go_wp2
    all_goals go_ret
    all_goals exact ⟨ret_b (by rw [Bool.eq_iff_iff, inB_2]; first | (constructor <;> intro h9 <;> first | rfl | omega | (exfalso; first | omega | exact absurd h9 (by decide))) | (simp; omega)), rfl⟩
  · have d0 : decide ((48 : Int) ≤ (c : Int)) = true := by simp <;> omega
    have d1 : decide ((c : Int) ≤ 57) = false := by simp <;> omega
    have d2 : decide ((97 : Int) ≤ (c : Int)) = true := by simp <;> omega
    have d3 : decide ((c : Int) ≤ 122) = true := by simp <;> omega
    have d4 : decide ((65 : Int) ≤ (c : Int)) = true := by simp <;> omega
    have d5 : decide ((c : Int) ≤ 90) = false := by simp <;> omega
    go_enter Tryf.func19, Tryf.ntmps19
    go_wp2
    all_goals go_ret
    all_goals exact ⟨ret_b (by rw [Bool.eq_iff_iff, inB_2]; first | (constructor <;> intro h9 <;> first | rfl | omega | (exfalso; first | omega | exact absurd h9 (by decide))) | (simp; omega)), rfl⟩
  · have d0 : decide ((48 : Int) ≤ (c : Int)) = true := by simp <;> omega
    have d1 : decide ((c : Int) ≤ 57) = false := by simp <;> omega
    have d2 : decide ((97 : Int) ≤ (c : Int)) = true := by simp <;> omega
    have d3 : decide ((c : Int) ≤ 122) = false := by simp <;> omega
    have d4 : decide ((65 : Int) ≤ (c : Int)) = true := by simp <;> omega
    have d5 : decide ((c : Int) ≤ 90) = false := by simp <;> omega
    go_enter Tryf.func19, Tryf.ntmps19
    go_wp2
    all_goals go_ret
    all_goals exact ⟨ret_b (by rw [Bool.eq_iff_iff, inB_2]; first | (constructor <;> intro h9 <;> first | rfl | omega | (exfalso; first | omega | exact absurd h9 (by decide))) | (simp; omega)), rfl⟩
set_option maxHeartbeats 4000000 in
set_option maxRecDepth 100000 in
theorem inClass_3 (c : Nat) (w : World) : Calls Tryf.prog 19 #[.int .i64 3, .int .u8 c] w fun e w' => e = .returned (.bool (inB 3 c)) ∧ w = w' := by
  have iv : c < 48 ∨ (48 ≤ c ∧ c ≤ 57) ∨ (57 < c ∧ c < 65) ∨ (65 ≤ c ∧ c ≤ 90) ∨ (90 < c ∧ c < 97) ∨ (97 ≤ c ∧ c ≤ 122) ∨ 122 < c := by omega
  rcases iv with h | ⟨h, h'⟩ | ⟨h, h'⟩ | ⟨h, h'⟩ | ⟨h, h'⟩ | ⟨h, h'⟩ | h
  · have d0 : decide ((48 : Int) ≤ (c : Int)) = false := by simp <;> omega
    have d2 : decide ((97 : Int) ≤ (c : Int)) = false := by simp <;> omega
    have d4 : decide ((65 : Int) ≤ (c : Int)) = false := by simp <;> omega
    go_enter Tryf.func19, Tryf.ntmps19
    go_wp2
    all_goals go_ret
    all_goals exact ⟨ret_b (by rw [Bool.eq_iff_iff, inB_3]; first | (constructor <;> intro h9 <;> first | rfl | omega | (exfalso; first | omega | exact absurd h9 (by decide))) | (simp; omega)), rfl⟩
  · have d0 : decide ((48 : Int) ≤ (c : Int)) = true := by simp <;> omega
    have d1 : decide ((c : Int) ≤ 57) = true := by simp <;> omega
    have d2 : decide ((97 : Int) ≤ (c : Int)) = false := by simp <;> omega
    have d4 : decide ((65 : Int) ≤ (c : Int)) = false := by simp <;> omega
    go_enter Tryf.func19, Tryf.ntmps19
    go_wp2
    all_goals go_ret
    all_goals exact ⟨ret_b (by rw [Bool.eq_iff_iff, inB_3]; first | (constructor <;> intro h9 <;> first | rfl | omega | (exfalso; first | omega | exact absurd h9 (by decide))) | (simp; omega)), rfl⟩
  · have d0 : decide ((48 : Int) ≤ (c : Int)) = true := by simp <;> omega
    have d1 : decide ((c : Int) ≤ 57) = false := by simp <;> omega
    have d2 : decide ((97 : Int) ≤ (c : Int)) = false := by simp <;> omega
    have d4 : decide ((65 : Int) ≤ (c : Int)) = false := by simp <;> omega
    go_enter Tryf.func19, Tryf.ntmps19
    go_wp2
    all_goals go_ret
    all_goals exact ⟨ret_b (by rw [Bool.eq_iff_iff, inB_3]; first | (constructor <;> intro h9 <;> first | rfl | omega | (exfalso; first | omega | exact absurd h9 (by decide))) | (simp; omega)), rfl⟩
  · have d0 : decide ((48 : Int) ≤ (c : Int)) = true := by simp <;> omega
    have d1 : decide ((c : Int) ≤ 57) = false := by simp <;> omega
    have d2 : decide ((97 : Int) ≤ (c : Int)) = false := by simp <;> omega
    have d4 : decide ((65 : Int) ≤ (c : Int)) = true := by simp <;> omega
    have d5 : decide ((c : Int) ≤ 90) = true := by simp <;> omega
    go_enter Tryf.func19, Tryf.ntmps19
    go_wp2
    all_goals go_ret
    all_goals exact ⟨ret_b (by rw [Bool.eq_iff_iff, inB_3]; first | (constructor <;> intro h9 <;> first | rfl | omega | (exfalso; first | omega | exact absurd h9 (by decide))) | (simp; omega)), rfl⟩
  · have d0 : decide ((48 : Int) ≤ (c : Int)) = true := by simp <;> omega
    have d1 : decide ((c : Int) ≤ 57) = false := by simp <;> omega
    have d2 : decide ((97 : Int) ≤ (c : Int)) = false := by simp <;> omega
    have d4 : decide ((65 : Int) ≤ (c : Int)) = true := by simp <;> omega
    have d5 : decide ((c : Int) ≤ 90) = false := by simp <;> omega
    go_enter Tryf.func19, Tryf.ntmps19
    go_wp2
    all_goals go_ret
    all_goals exact ⟨ret_b (by rw [Bool.eq_iff_iff, inB_3]; first | (constructor <;> intro h9 <;> first | rfl | omega | (exfalso; first | omega | exact absurd h9 (by decide))) | (simp; omega)), rfl⟩
  · have d0 : decide ((48 : Int) ≤ (c : Int)) = true := by simp <;> omega
    have d1 : decide ((c : Int) ≤ 57) = false := by simp <;> omega
    have d2 : decide ((97 : Int) ≤ (c : Int)) = true := by simp <;> omega
    have d3 : decide ((c : Int) ≤ 122) = true := by simp <;> omega
    have d4 : decide ((65 : Int) ≤ (c : Int)) = true := by simp <;> omega
    have d5 : decide ((c : Int) ≤ 90) = false := by simp <;> omega
    go_enter Tryf.func19, Tryf.ntmps19
    go_wp2
    all_goals go_ret
    all_goals exact ⟨ret_b (by rw [Bool.eq_iff_iff, inB_3]; first | (constructor <;> intro h9 <;> first | rfl | omega | (exfalso; first | omega | exact absurd h9 (by decide))) | (simp; omega)), rfl⟩
  · have d0 : decide ((48 : Int) ≤ (c : Int)) = true := by simp <;> omega
    have d1 : decide ((c : Int) ≤ 57) = false := by simp <;> omega
    have d2 : decide ((97 : Int) ≤ (c : Int)) = true := by simp <;> omega
    have d3 : decide ((c : Int) ≤ 122) = false := by simp <;> omega
    have d4 : decide ((65 : Int) ≤ (c : Int)) = true := by simp <;> omega
    have d5 : decide ((c : Int) ≤ 90) = false := by simp <;> omega
    go_enter Tryf.func19, Tryf.ntmps19
    go_wp2
    all_goals go_ret
    all_goals exact ⟨ret_b (by rw [Bool.eq_iff_iff, inB_3]; first | (constructor <;> intro h9 <;> first | rfl | omega | (exfalso; first | omega | exact absurd h9 (by decide))) | (simp; omega)), rfl⟩
set_option maxHeartbeats 4000000 in
set_option maxRecDepth 100000 in
theorem inClass_4 (c : Nat) (w : World) : Calls Tryf.prog 19 #[.int .i64 4, .int .u8 c] w fun e w' => e = .returned (.bool (inB 4 c)) ∧ w = w' := by
  have iv : c < 48 ∨ (48 ≤ c ∧ c ≤ 57) ∨ (57 < c ∧ c < 65) ∨ (65 ≤ c ∧ c ≤ 90) ∨ (90 < c ∧ c < 97) ∨ (97 ≤ c ∧ c ≤ 122) ∨ 122 < c := by omega
  rcases iv with h | ⟨h, h'⟩ | ⟨h, h'⟩ | ⟨h, h'⟩ | ⟨h, h'⟩ | ⟨h, h'⟩ | h
  · have d0 : decide ((48 : Int) ≤ (c : Int)) = false := by simp <;> omega
    have d2 : decide ((97 : Int) ≤ (c : Int)) = false := by simp <;> omega
    have d4 : decide ((65 : Int) ≤ (c : Int)) = false := by simp <;> omega
    go_enter Tryf.func19, Tryf.ntmps19
    go_wp2
    all_goals go_ret
    all_goals exact ⟨ret_b (by rw [Bool.eq_iff_iff, inB_4]; first | (constructor <;> intro h9 <;> first | rfl | omega | (exfalso; first | omega | exact absurd h9 (by decide))) | (simp; omega)), rfl⟩
  · have d0 : decide ((48 : Int) ≤ (c : Int)) = true := by simp <;> omega
    have d1 : decide ((c : Int) ≤ 57) = true := by simp <;> omega
    have d2 : decide ((97 : Int) ≤ (c : Int)) = false := by simp <;> omega
    have d4 : decide ((65 : Int) ≤ (c : Int)) = false := by simp <;> omega
    go_enter Tryf.func19, Tryf.ntmps19
    go_wp2
    all_goals go_ret
    all_goals exact ⟨ret_b (by rw [Bool.eq_iff_iff, inB_4]; first | (constructor <;> intro h9 <;> first | rfl | omega | (exfalso; first | omega | exact absurd h9 (by decide))) | (simp; omega)), rfl⟩
  · have d0 : decide ((48 : Int) ≤ (c : Int)) = true := by simp <;> omega
    have d1 : decide ((c : Int) ≤ 57) = false := by simp <;> omega
    have d2 : decide ((97 : Int) ≤ (c : Int)) = false := by simp <;> omega
    have d4 : decide ((65 : Int) ≤ (c : Int)) = false := by simp <;> omega
    go_enter Tryf.func19, Tryf.ntmps19
    go_wp2
    all_goals go_ret
    all_goals exact ⟨ret_b (by rw [Bool.eq_iff_iff, inB_4]; first | (constructor <;> intro h9 <;> first | rfl | omega | (exfalso; first | omega | exact absurd h9 (by decide))) | (simp; omega)), rfl⟩
  · have d0 : decide ((48 : Int) ≤ (c : Int)) = true := by simp <;> omega
    have d1 : decide ((c : Int) ≤ 57) = false := by simp <;> omega
    have d2 : decide ((97 : Int) ≤ (c : Int)) = false := by simp <;> omega
    have d4 : decide ((65 : Int) ≤ (c : Int)) = true := by simp <;> omega
    have d5 : decide ((c : Int) ≤ 90) = true := by simp <;> omega
    go_enter Tryf.func19, Tryf.ntmps19
    go_wp2
    all_goals go_ret
    all_goals exact ⟨ret_b (by rw [Bool.eq_iff_iff, inB_4]; first | (constructor <;> intro h9 <;> first | rfl | omega | (exfalso; first | omega | exact absurd h9 (by decide))) | (simp; omega)), rfl⟩
  · have d0 : decide ((48 : Int) ≤ (c : Int)) = true := by simp <;> omega
    have d1 : decide ((c : Int) ≤ 57) = false := by simp <;> omega
    have d2 : decide ((97 : Int) ≤ (c : Int)) = false := by simp <;> omega
    have d4 : decide ((65 : Int) ≤ (c : Int)) = true := by simp <;> omega
    have d5 : decide ((c : Int) ≤ 90) = false := by simp <;> omega
    go_enter Tryf.func19, Tryf.ntmps19
    go_wp2
    all_goals go_ret
    all_goals exact ⟨ret_b (by rw [Bool.eq_iff_iff, inB_4]; first | (constructor <;> intro h9 <;> first | rfl | omega | (exfalso; first | omega | exact absurd h9 (by decide))) | (simp; omega)), rfl⟩
  · have d0 : decide ((48 : Int) ≤ (c : Int)) = true := by simp <;> omega
    have d1 : decide ((c : Int) ≤ 57) = false := by simp <;> omega
    have d2 : decide ((97 : Int) ≤ (c : Int)) = true := by simp <;> omega
    have d3 : decide ((c : Int) ≤ 122) = true := by simp <;> omega
    have d4 : decide ((65 : Int) ≤ (c : Int)) = true := by simp <;> omega
    have d5 : decide ((c : Int) ≤ 90) = false := by simp <;> omega
    go_enter Tryf.func19, Tryf.ntmps19
    go_wp2
    all_goals go_ret
    all_goals exact ⟨ret_b (by rw [Bool.eq_iff_iff, inB_4]; first | (constructor <;> intro h9 <;> first | rfl | omega | (exfalso; first | omega | exact absurd h9 (by decide))) | (simp; omega)), rfl⟩
  · have d0 : decide ((48 : Int) ≤ (c : Int)) = true := by simp <;> omega
    have d1 : decide ((c : Int) ≤ 57) = false := by simp <;> omega
    have d2 : decide ((97 : Int) ≤ (c : Int)) = true := by simp <;> omega
    have d3 : decide ((c : Int) ≤ 122) = false := by simp <;> omega
    have d4 : decide ((65 : Int) ≤ (c : Int)) = true := by simp <;> omega
    have d5 : decide ((c : Int) ≤ 90) = false := by simp <;> omega
    go_enter Tryf.func19, Tryf.ntmps19
    go_wp2
    all_goals go_ret
    all_goals exact ⟨ret_b (by rw [Bool.eq_iff_iff, inB_4]; first | (constructor <;> intro h9 <;> first | rfl | omega | (exfalso; first | omega | exact absurd h9 (by decide))) | (simp; omega)), rfl⟩
set_option maxHeartbeats 4000000 in
set_option maxRecDepth 100000 in
theorem inClass_5 (c : Nat) (w : World) : Calls Tryf.prog 19 #[.int .i64 5, .int .u8 c] w fun e w' => e = .returned (.bool (inB 5 c)) ∧ w = w' := by
  have iv : c < 48 ∨ (48 ≤ c ∧ c ≤ 57) ∨ (57 < c ∧ c < 65) ∨ (65 ≤ c ∧ c ≤ 90) ∨ (90 < c ∧ c < 97) ∨ (97 ≤ c ∧ c ≤ 122) ∨ 122 < c := by omega
  rcases iv with h | ⟨h, h'⟩ | ⟨h, h'⟩ | ⟨h, h'⟩ | ⟨h, h'⟩ | ⟨h, h'⟩ | h
  · have d0 : decide ((48 : Int) ≤ (c : Int)) = false := by simp <;> omega
    have d2 : decide ((97 : Int) ≤ (c : Int)) = false := by simp <;> omega
    have d4 : decide ((65 : Int) ≤ (c : Int)) = false := by simp <;> omega
    go_enter Tryf.func19, Tryf.ntmps19
    go_wp2
    all_goals go_ret
    all_goals exact ⟨ret_b (by rw [Bool.eq_iff_iff, inB_5]; first | (constructor <;> intro h9 <;> first | rfl | omega | (exfalso; first | omega | exact absurd h9 (by decide))) | (simp; omega)), rfl⟩
  · have d0 : decide ((48 : Int) ≤ (c : Int)) = true := by simp <;> omega
    have d1 : decide ((c : Int) ≤ 57) = true := by simp <;> omega
    have d2 : decide ((97 : Int) ≤ (c : Int)) = false := by simp <;> omega
    have d4 : decide ((65 : Int) ≤ (c : Int)) = false := by simp <;> omega
    go_enter Tryf.func19, Tryf.ntmps19
    go_wp2
    all_goals go_ret
    all_goals exact ⟨ret_b (by rw [Bool.eq_iff_iff, inB_5]; first | (constructor <;> intro h9 <;> first | rfl | omega | (exfalso; first | omega | exact absurd h9 (by decide))) | (simp; omega)), rfl⟩
  · have d0 : decide ((48 : Int) ≤ (c : Int)) = true := by simp <;> omega
    have d1 : decide ((c : Int) ≤ 57) = false := by simp <;> omega
    have d2 : decide ((97 : Int) ≤ (c : Int)) = false := by simp <;> omega
    have d4 : decide ((65 : Int) ≤ (c : Int)) = false := by simp <;> omega
    go_enter Tryf.func19, Tryf.ntmps19
    go_wp2
    all_goals go_ret
    all_goals exact ⟨ret_b (by rw [Bool.eq_iff_iff, inB_5]; first | (constructor <;> intro h9 <;> first | rfl | omega | (exfalso; first | omega | exact absurd h9 (by decide))) | (simp; omega)), rfl⟩
  · have d0 : decide ((48 : Int) ≤ (c : Int)) = true := by simp <;> omega
    have d1 : decide ((c : Int) ≤ 57) = false := by simp <;> omega
    have d2 : decide ((97 : Int) ≤ (c : Int)) = false := by simp <;> omega
    have d4 : decide ((65 : Int) ≤ (c : Int)) = true := by simp <;> omega
    have d5 : decide ((c : Int) ≤ 90) = true := by simp <;> omega
    go_enter Tryf.func19, Tryf.ntmps19
    go_wp2
    all_goals go_ret
    all_goals exact ⟨ret_b (by rw [Bool.eq_iff_iff, inB_5]; first | (constructor <;> intro h9 <;> first | rfl | omega | (exfalso; first | omega | exact absurd h9 (by decide))) | (simp; omega)), rfl⟩
  · have d0 : decide ((48 : Int) ≤ (c : Int)) = true := by simp <;> omega
    have d1 : decide ((c : Int) ≤ 57) = false := by simp <;> omega
    have d2 : decide ((97 : Int) ≤ (c : Int)) = false := by simp <;> omega
    have d4 : decide ((65 : Int) ≤ (c : Int)) = true := by simp <;> omega
    have d5 : decide ((c : Int) ≤ 90) = false := by simp <;> omega
    go_enter Tryf.func19, Tryf.ntmps19
    go_wp2
    all_goals go_ret
    all_goals exact ⟨ret_b (by rw [Bool.eq_iff_iff, inB_5]; first | (constructor <;> intro h9 <;> first | rfl | omega | (exfalso; first | omega | exact absurd h9 (by decide))) | (simp; omega)), rfl⟩
  · have d0 : decide ((48 : Int) ≤ (c : Int)) = true := by simp <;> omega
    have d1 : decide ((c : Int) ≤ 57) = false := by simp <;> omega
    have d2 : decide ((97 : Int) ≤ (c : Int)) = true := by simp <;> omega
    have d3 : decide ((c : Int) ≤ 122) = true := by simp <;> omega
    have d4 : decide ((65 : Int) ≤ (c : Int)) = true := by simp <;> omega
    have d5 : decide ((c : Int) ≤ 90) = false := by simp <;> omega
    go_enter Tryf.func19, Tryf.ntmps19
    go_wp2
    all_goals go_ret
    all_goals exact ⟨ret_b (by rw [Bool.eq_iff_iff, inB_5]; first | (constructor <;> intro h9 <;> first | rfl | omega | (exfalso; first | omega | exact absurd h9 (by decide))) | (simp; omega)), rfl⟩
  · have d0 : decide ((48 : Int) ≤ (c : Int)) = true := by simp <;> omega
    have d1 : decide ((c : Int) ≤ 57) = false := by simp <;> omega
    have d2 : decide ((97 : Int) ≤ (c : Int)) = true := by simp <;> omega
    have d3 : decide ((c : Int) ≤ 122) = false := by simp <;> omega
    have d4 : decide ((65 : Int) ≤ (c : Int)) = true := by simp <;> omega
    have d5 : decide ((c : Int) ≤ 90) = false := by simp <;> omega
    go_enter Tryf.func19, Tryf.ntmps19
    go_wp2
    all_goals go_ret
    all_goals exact ⟨ret_b (by rw [Bool.eq_iff_iff, inB_5]; first | (constructor <;> intro h9 <;> first | rfl | omega | (exfalso; first | omega | exact absurd h9 (by decide))) | (simp; omega)), rfl⟩
set_option maxHeartbeats 4000000 in
set_option maxRecDepth 100000 in
theorem inClass_6 (c : Nat) (w : World) : Calls Tryf.prog 19 #[.int .i64 6, .int .u8 c] w fun e w' => e = .returned (.bool (inB 6 c)) ∧ w = w' := by
  have iv : c < 48 ∨ (48 ≤ c ∧ c ≤ 57) ∨ (57 < c ∧ c < 65) ∨ (65 ≤ c ∧ c ≤ 90) ∨ (90 < c ∧ c < 97) ∨ (97 ≤ c ∧ c ≤ 122) ∨ 122 < c := by omega
  rcases iv with h | ⟨h, h'⟩ | ⟨h, h'⟩ | ⟨h, h'⟩ | ⟨h, h'⟩ | ⟨h, h'⟩ | h
  · have d0 : decide ((48 : Int) ≤ (c : Int)) = false := by simp <;> omega
    have d2 : decide ((97 : Int) ≤ (c : Int)) = false := by simp <;> omega
    have d4 : decide ((65 : Int) ≤ (c : Int)) = false := by simp <;> omega
    go_enter Tryf.func19, Tryf.ntmps19
    go_wp2
    all_goals go_ret
    all_goals exact ⟨ret_b (by rw [Bool.eq_iff_iff, inB_6]; first | (constructor <;> intro h9 <;> first | rfl | omega | (exfalso; first | omega | exact absurd h9 (by decide))) | (simp; omega)), rfl⟩
  · have d0 : decide ((48 : Int) ≤ (c : Int)) = true := by simp <;> omega
    have d1 : decide ((c : Int) ≤ 57) = true := by simp <;> omega
    have d2 : decide ((97 : Int) ≤ (c : Int)) = false := by simp <;> omega
    have d4 : decide ((65 : Int) ≤ (c : Int)) = false := by simp <;> omega
    go_enter Tryf.func19, Tryf.ntmps19
    go_wp2
    all_goals go_ret
    all_goals exact ⟨ret_b (by rw [Bool.eq_iff_iff, inB_6]; first | (constructor <;> intro h9 <;> first | rfl | omega | (exfalso; first | omega | exact absurd h9 (by decide))) | (simp; omega)), rfl⟩
  · have d0 : decide ((48 : Int) ≤ (c : Int)) = true := by simp <;> omega
    have d1 : decide ((c : Int) ≤ 57) = false := by simp <;> omega
    have d2 : decide ((97 : Int) ≤ (c : Int)) = false := by simp <;> omega
    have d4 : decide ((65 : Int) ≤ (c : Int)) = false := by simp <;> omega
    go_enter Tryf.func19, Tryf.ntmps19
    go_wp2
    all_goals go_ret
    all_goals exact ⟨ret_b (by rw [Bool.eq_iff_iff, inB_6]; first | (constructor <;> intro h9 <;> first | rfl | omega | (exfalso; first | omega | exact absurd h9 (by decide))) | (simp; omega)), rfl⟩
  · have d0 : decide ((48 : Int) ≤ (c : Int)) = true := by simp <;> omega
    have d1 : decide ((c : Int) ≤ 57) = false := by simp <;> omega
    have d2 : decide ((97 : Int) ≤ (c : Int)) = false := by simp <;> omega
    have d4 : decide ((65 : Int) ≤ (c : Int)) = true := by simp <;> omega
    have d5 : decide ((c : Int) ≤ 90) = true := by simp <;> omega
    go_enter Tryf.func19, Tryf.ntmps19
    go_wp2
    all_goals go_ret
    all_goals exact ⟨ret_b (by rw [Bool.eq_iff_iff, inB_6]; first | (constructor <;> intro h9 <;> first | rfl | omega | (exfalso; first | omega | exact absurd h9 (by decide))) | (simp; omega)), rfl⟩
  · have d0 : decide ((48 : Int) ≤ (c : Int)) = true := by simp <;> omega
    have d1 : decide ((c : Int) ≤ 57) = false := by simp <;> omega
    have d2 : decide ((97 : Int) ≤ (c : Int)) = false := by simp <;> omega
    have d4 : decide ((65 : Int) ≤ (c : Int)) = true := by simp <;> omega
    have d5 : decide ((c : Int) ≤ 90) = false := by simp <;> omega
    go_enter Tryf.func19, Tryf.ntmps19
    go_wp2
    all_goals go_ret
    all_goals exact ⟨ret_b (by rw [Bool.eq_iff_iff, inB_6]; first | (constructor <;> intro h9 <;> first | rfl | omega | (exfalso; first | omega | exact absurd h9 (by decide))) | (simp; omega)), rfl⟩
  · have d0 : decide ((48 : Int) ≤ (c : Int)) = true := by simp <;> omega
    have d1 : decide ((c : Int) ≤ 57) = false := by simp <;> omega
    have d2 : decide ((97 : Int) ≤ (c : Int)) = true := by simp <;> omega
    have d3 : decide ((c : Int) ≤ 122) = true := by simp <;> omega
    have d4 : decide ((65 : Int) ≤ (c : Int)) = true := by simp <;> omega
    have d5 : decide ((c : Int) ≤ 90) = false := by simp <;> omega
    go_enter Tryf.func19, Tryf.ntmps19
    go_wp2
    all_goals go_ret
    all_goals exact ⟨ret_b (by rw [Bool.eq_iff_iff, inB_6]; first | (constructor <;> intro h9 <;> first | rfl | omega | (exfalso; first | omega | exact absurd h9 (by decide))) | (simp; omega)), rfl⟩
  · have d0 : decide ((48 : Int) ≤ (c : Int)) = true := by simp <;> omega
    have d1 : decide ((c : Int) ≤ 57) = false := by simp <;> omega
    have d2 : decide ((97 : Int) ≤ (c : Int)) = true := by simp <;> omega
    have d3 : decide ((c : Int) ≤ 122) = false := by simp <;> omega
    have d4 : decide ((65 : Int) ≤ (c : Int)) = true := by simp <;> omega
    have d5 : decide ((c : Int) ≤ 90) = false := by simp <;> omega
    go_enter Tryf.func19, Tryf.ntmps19
    go_wp2
    all_goals go_ret
    all_goals exact ⟨ret_b (by rw [Bool.eq_iff_iff, inB_6]; first | (constructor <;> intro h9 <;> first | rfl | omega | (exfalso; first | omega | exact absurd h9 (by decide))) | (simp; omega)), rfl⟩
set_option maxHeartbeats 4000000 in
set_option maxRecDepth 100000 in
theorem inClass_7 (c : Nat) (w : World) : Calls Tryf.prog 19 #[.int .i64 7, .int .u8 c] w fun e w' => e = .returned (.bool (inB 7 c)) ∧ w = w' := by
  have iv : c < 48 ∨ (48 ≤ c ∧ c ≤ 57) ∨ (57 < c ∧ c < 65) ∨ (65 ≤ c ∧ c ≤ 90) ∨ (90 < c ∧ c < 97) ∨ (97 ≤ c ∧ c ≤ 122) ∨ 122 < c := by omega
  rcases iv with h | ⟨h, h'⟩ | ⟨h, h'⟩ | ⟨h, h'⟩ | ⟨h, h'⟩ | ⟨h, h'⟩ | h
  · have d0 : decide ((48 : Int) ≤ (c : Int)) = false := by simp <;> omega
    have d2 : decide ((97 : Int) ≤ (c : Int)) = false := by simp <;> omega
    have d4 : decide ((65 : Int) ≤ (c : Int)) = false := by simp <;> omega
    go_enter Tryf.func19, Tryf.ntmps19
    go_wp2
    all_goals go_ret
    all_goals exact ⟨ret_b (by rw [Bool.eq_iff_iff, inB_7]; first | (constructor <;> intro h9 <;> first | rfl | omega | (exfalso; first | omega | exact absurd h9 (by decide))) | (simp; omega)), rfl⟩
  · have d0 : decide ((48 : Int) ≤ (c : Int)) = true := by simp <;> omega
    have d1 : decide ((c : Int) ≤ 57) = true := by simp <;> omega
    have d2 : decide ((97 : Int) ≤ (c : Int)) = false := by simp <;> omega
    have d4 : decide ((65 : Int) ≤ (c : Int)) = false := by simp <;> omega
    go_enter Tryf.func19, Tryf.ntmps19
    go_wp2
    all_goals go_ret
    all_goals exact ⟨ret_b (by rw [Bool.eq_iff_iff, inB_7]; first | (constructor <;> intro h9 <;> first | rfl | omega | (exfalso; first | omega | exact absurd h9 (by decide))) | (simp; omega)), rfl⟩
  · have d0 : decide ((48 : Int) ≤ (c : Int)) = true := by simp <;> omega
    have d1 : decide ((c : Int) ≤ 57) = false := by simp <;> omega
    have d2 : decide ((97 : Int) ≤ (c : Int)) = false := by simp <;> omega
    have d4 : decide ((65 : Int) ≤ (c : Int)) = false := by simp <;> omega
    go_enter Tryf.func19, Tryf.ntmps19
    go_wp2
    all_goals go_ret
    all_goals exact ⟨ret_b (by rw [Bool.eq_iff_iff, inB_7]; first | (constructor <;> intro h9 <;> first | rfl | omega | (exfalso; first | omega | exact absurd h9 (by decide))) | (simp; omega)), rfl⟩
  · have d0 : decide ((48 : Int) ≤ (c : Int)) = true := by simp <;> omega
    have d1 : decide ((c : Int) ≤ 57) = false := by simp <;> omega
    have d2 : decide ((97 : Int) ≤ (c : Int)) = false := by simp <;> omega
    have d4 : decide ((65 : Int) ≤ (c : Int)) = true := by simp <;> omega
    have d5 : decide ((c : Int) ≤ 90) = true := by simp <;> omega
    go_enter Tryf.func19, Tryf.ntmps19
    go_wp2
    all_goals go_ret
    all_goals exact ⟨ret_b (by rw [Bool.eq_iff_iff, inB_7]; first | (constructor <;> intro h9 <;> first | rfl | omega | (exfalso; first | omega | exact absurd h9 (by decide))) | (simp; omega)), rfl⟩
  · have d0 : decide ((48 : Int) ≤ (c : Int)) = true := by simp <;> omega
    have d1 : decide ((c : Int) ≤ 57) = false := by simp <;> omega
    have d2 : decide ((97 : Int) ≤ (c : Int)) = false := by simp <;> omega
    have d4 : decide ((65 : Int) ≤ (c : Int)) = true := by simp <;> omega
    have d5 : decide ((c : Int) ≤ 90) = false := by simp <;> omega
    go_enter Tryf.func19, Tryf.ntmps19
    go_wp2
    all_goals go_ret
    all_goals exact ⟨ret_b (by rw [Bool.eq_iff_iff, inB_7]; first | (constructor <;> intro h9 <;> first | rfl | omega | (exfalso; first | omega | exact absurd h9 (by decide))) | (simp; omega)), rfl⟩
  · have d0 : decide ((48 : Int) ≤ (c : Int)) = true := by simp <;> omega
    have d1 : decide ((c : Int) ≤ 57) = false := by simp <;> omega
    have d2 : decide ((97 : Int) ≤ (c : Int)) = true := by simp <;> omega
    have d3 : decide ((c : Int) ≤ 122) = true := by simp <;> omega
    have d4 : decide ((65 : Int) ≤ (c : Int)) = true := by simp <;> omega
    have d5 : decide ((c : Int) ≤ 90) = false := by simp <;> omega
    go_enter Tryf.func19, Tryf.ntmps19
    go_wp2
    all_goals go_ret
    all_goals exact ⟨ret_b (by rw [Bool.eq_iff_iff, inB_7]; first | (constructor <;> intro h9 <;> first | rfl | omega | (exfalso; first | omega | exact absurd h9 (by decide))) | (simp; omega)), rfl⟩
  · have d0 : decide ((48 : Int) ≤ (c : Int)) = true := by simp <;> omega
    have d1 : decide ((c : Int) ≤ 57) = false := by simp <;> omega
    have d2 : decide ((97 : Int) ≤ (c : Int)) = true := by simp <;> omega
    have d3 : decide ((c : Int) ≤ 122) = false := by simp <;> omega
    have d4 : decide ((65 : Int) ≤ (c : Int)) = true := by simp <;> omega
    have d5 : decide ((c : Int) ≤ 90) = false := by simp <;> omega
    go_enter Tryf.func19, Tryf.ntmps19
    go_wp2
    all_goals go_ret
    all_goals exact ⟨ret_b (by rw [Bool.eq_iff_iff, inB_7]; first | (constructor <;> intro h9 <;> first | rfl | omega | (exfalso; first | omega | exact absurd h9 (by decide))) | (simp; omega)), rfl⟩
set_option maxHeartbeats 4000000 in
set_option maxRecDepth 100000 in
theorem inClass_8 (c : Nat) (w : World) : Calls Tryf.prog 19 #[.int .i64 8, .int .u8 c] w fun e w' => e = .returned (.bool (inB 8 c)) ∧ w = w' := by
  have iv : c < 48 ∨ (48 ≤ c ∧ c ≤ 57) ∨ (57 < c ∧ c < 65) ∨ (65 ≤ c ∧ c ≤ 90) ∨ (90 < c ∧ c < 97) ∨ (97 ≤ c ∧ c ≤ 122) ∨ 122 < c := by omega
  rcases iv with h | ⟨h, h'⟩ | ⟨h, h'⟩ | ⟨h, h'⟩ | ⟨h, h'⟩ | ⟨h, h'⟩ | h
  · have d0 : decide ((48 : Int) ≤ (c : Int)) = false := by simp <;> omega
    have d2 : decide ((97 : Int) ≤ (c : Int)) = false := by simp <;> omega
    have d4 : decide ((65 : Int) ≤ (c : Int)) = false := by simp <;> omega
    go_enter Tryf.func19, Tryf.ntmps19
    go_wp2
    all_goals go_ret
    all_goals exact ⟨ret_b (by rw [Bool.eq_iff_iff, inB_8]; first | (constructor <;> intro h9 <;> first | rfl | omega | (exfalso; first | omega | exact absurd h9 (by decide))) | (simp; omega)), rfl⟩
  · have d0 : decide ((48 : Int) ≤ (c : Int)) = true := by simp <;> omega
    have d1 : decide ((c : Int) ≤ 57) = true := by simp <;> omega
    have d2 : decide ((97 : Int) ≤ (c : Int)) = false := by simp <;> omega
    have d4 : decide ((65 : Int) ≤ (c : Int)) = false := by simp <;> omega
    go_enter Tryf.func19, Tryf.ntmps19
    go_wp2
    all_goals go_ret
    all_goals exact ⟨ret_b (by rw [Bool.eq_iff_iff, inB_8]; first | (constructor <;> intro h9 <;> first | rfl | omega | (exfalso; first | omega | exact absurd h9 (by decide))) | (simp; omega)), rfl⟩
  · have d0 : decide ((48 : Int) ≤ (c : Int)) = true := by simp <;> omega
    have d1 : decide ((c : Int) ≤ 57) = false := by simp <;> omega
    have d2 : decide ((97 : Int) ≤ (c : Int)) = false := by simp <;> omega
    have d4 : decide ((65 : Int) ≤ (c : Int)) = false := by simp <;> omega
    go_enter Tryf.func19, Tryf.ntmps19
    go_wp2
    all_goals go_ret
    all_goals exact ⟨ret_b (by rw [Bool.eq_iff_iff, inB_8]; first | (constructor <;> intro h9 <;> first | rfl | omega | (exfalso; first | omega | exact absurd h9 (by decide))) | (simp; omega)), rfl⟩
  · have d0 : decide ((48 : Int) ≤ (c : Int)) = true := by simp <;> omega
    have d1 : decide ((c : Int) ≤ 57) = false := by simp <;> omega
    have d2 : decide ((97 : Int) ≤ (c : Int)) = false := by simp <;> omega
    have d4 : decide ((65 : Int) ≤ (c : Int)) = true := by simp <;> omega
    have d5 : decide ((c : Int) ≤ 90) = true := by simp <;> omega
    go_enter Tryf.func19, Tryf.ntmps19
    go_wp2
    all_goals go_ret
    all_goals exact ⟨ret_b (by rw [Bool.eq_iff_iff, inB_8]; first | (constructor <;> intro h9 <;> first | rfl | omega | (exfalso; first | omega | exact absurd h9 (by decide))) | (simp; omega)), rfl⟩
  · have d0 : decide ((48 : Int) ≤ (c : Int)) = true := by simp <;> omega
    have d1 : decide ((c : Int) ≤ 57) = false := by simp <;> omega
    have d2 : decide ((97 : Int) ≤ (c : Int)) = false := by simp <;> omega
    have d4 : decide ((65 : Int) ≤ (c : Int)) = true := by simp <;> omega
    have d5 : decide ((c : Int) ≤ 90) = false := by simp <;> omega
    go_enter Tryf.func19, Tryf.ntmps19
    go_wp2
    all_goals go_ret
    all_goals exact ⟨ret_b (by rw [Bool.eq_iff_iff, inB_8]; first | (constructor <;> intro h9 <;> first | rfl | omega | (exfalso; first | omega | exact absurd h9 (by decide))) | (simp; omega)), rfl⟩
  · have d0 : decide ((48 : Int) ≤ (c : Int)) = true := by simp <;> omega
    have d1 : decide ((c : Int) ≤ 57) = false := by simp <;> omega
    have d2 : decide ((97 : Int) ≤ (c : Int)) = true := by simp <;> omega
    have d3 : decide ((c : Int) ≤ 122) = true := by simp <;> omega
    have d4 : decide ((65 : Int) ≤ (c : Int)) = true := by simp <;> omega
    have d5 : decide ((c : Int) ≤ 90) = false := by simp <;> omega
    go_enter Tryf.func19, Tryf.ntmps19
    go_wp2
    all_goals go_ret
    all_goals exact ⟨ret_b (by rw [Bool.eq_iff_iff, inB_8]; first | (constructor <;> intro h9 <;> first | rfl | omega | (exfalso; first | omega | exact absurd h9 (by decide))) | (simp; omega)), rfl⟩
  · have d0 : decide ((48 : Int) ≤ (c : Int)) = true := by simp <;> omega
    have d1 : decide ((c : Int) ≤ 57) = false := by simp <;> omega
    have d2 : decide ((97 : Int) ≤ (c : Int)) = true := by simp <;> omega
    have d3 : decide ((c : Int) ≤ 122) = false := by simp <;> omega
    have d4 : decide ((65 : Int) ≤ (c : Int)) = true := by simp <;> omega
    have d5 : decide ((c : Int) ≤ 90) = false := by simp <;> omega
    go_enter Tryf.func19, Tryf.ntmps19
    go_wp2
    all_goals go_ret
    all_goals exact ⟨ret_b (by rw [Bool.eq_iff_iff, inB_8]; first | (constructor <;> intro h9 <;> first | rfl | omega | (exfalso; first | omega | exact absurd h9 (by decide))) | (simp; omega)), rfl⟩
set_option maxHeartbeats 4000000 in
set_option maxRecDepth 100000 in
theorem inClass_9 (c : Nat) (w : World) : Calls Tryf.prog 19 #[.int .i64 9, .int .u8 c] w fun e w' => e = .returned (.bool (inB 9 c)) ∧ w = w' := by
  have iv : c < 48 ∨ (48 ≤ c ∧ c ≤ 57) ∨ (57 < c ∧ c < 65) ∨ (65 ≤ c ∧ c ≤ 90) ∨ (90 < c ∧ c < 97) ∨ (97 ≤ c ∧ c ≤ 122) ∨ 122 < c := by omega
  rcases iv with h | ⟨h, h'⟩ | ⟨h, h'⟩ | ⟨h, h'⟩ | ⟨h, h'⟩ | ⟨h, h'⟩ | h
  · have d0 : decide ((48 : Int) ≤ (c : Int)) = false := by simp <;> omega
    have d2 : decide ((97 : Int) ≤ (c : Int)) = false := by simp <;> omega
    have d4 : decide ((65 : Int) ≤ (c : Int)) = false := by simp <;> omega
    go_enter Tryf.func19, Tryf.ntmps19
    go_wp2
    all_goals go_ret
    all_goals exact ⟨ret_b (by rw [Bool.eq_iff_iff, inB_9]; first | (constructor <;> intro h9 <;> first | rfl | omega | (exfalso; first | omega | exact absurd h9 (by decide))) | (simp; omega)), rfl⟩
  · have d0 : decide ((48 : Int) ≤ (c : Int)) = true := by simp <;> omega
    have d1 : decide ((c : Int) ≤ 57) = true := by simp <;> omega
    have d2 : decide ((97 : Int) ≤ (c : Int)) = false := by simp <;> omega
    have d4 : decide ((65 : Int) ≤ (c : Int)) = false := by simp <;> omega
    go_enter Tryf.func19, Tryf.ntmps19
    go_wp2
    all_goals go_ret
    all_goals exact ⟨ret_b (by rw [Bool.eq_iff_iff, inB_9]; first | (constructor <;> intro h9 <;> first | rfl | omega | (exfalso; first | omega | exact absurd h9 (by decide))) | (simp; omega)), rfl⟩
  · have d0 : decide ((48 : Int) ≤ (c : Int)) = true := by simp <;> omega
    have d1 : decide ((c : Int) ≤ 57) = false := by simp <;> omega
    have d2 : decide ((97 : Int) ≤ (c : Int)) = false := by simp <;> omega
    have d4 : decide ((65 : Int) ≤ (c : Int)) = false := by simp <;> omega
    go_enter Tryf.func19, Tryf.ntmps19
    go_wp2
    all_goals go_ret
    all_goals exact ⟨ret_b (by rw [Bool.eq_iff_iff, inB_9]; first | (constructor <;> intro h9 <;> first | rfl | omega | (exfalso; first | omega | exact absurd h9 (by decide))) | (simp; omega)), rfl⟩
  · have d0 : decide ((48 : Int) ≤ (c : Int)) = true := by simp <;> omega
    have d1 : decide ((c : Int) ≤ 57) = false := by simp <;> omega
    have d2 : decide ((97 : Int) ≤ (c : Int)) = false := by simp <;> omega
    have d4 : decide ((65 : Int) ≤ (c : Int)) = true := by simp <;> omega
    have d5 : decide ((c : Int) ≤ 90) = true := by simp <;> omega
    go_enter Tryf.func19, Tryf.ntmps19
    go_wp2
    all_goals go_ret
    all_goals exact ⟨ret_b (by rw [Bool.eq_iff_iff, inB_9]; first | (constructor <;> intro h9 <;> first | rfl | omega | (exfalso; first | omega | exact absurd h9 (by decide))) | (simp; omega)), rfl⟩
  · have d0 : decide ((48 : Int) ≤ (c : Int)) = true := by simp <;> omega
    have d1 : decide ((c : Int) ≤ 57) = false := by simp <;> omega
    have d2 : decide ((97 : Int) ≤ (c : Int)) = false := by simp <;> omega
    have d4 : decide ((65 : Int) ≤ (c : Int)) = true := by simp <;> omega
    have d5 : decide ((c : Int) ≤ 90) = false := by simp <;> omega
    go_enter Tryf.func19, Tryf.ntmps19
    go_wp2
    all_goals go_ret
    all_goals exact ⟨ret_b (by rw [Bool.eq_iff_iff, inB_9]; first | (constructor <;> intro h9 <;> first | rfl | omega | (exfalso; first | omega | exact absurd h9 (by decide))) | (simp; omega)), rfl⟩
  · have d0 : decide ((48 : Int) ≤ (c : Int)) = true := by simp <;> omega
    have d1 : decide ((c : Int) ≤ 57) = false := by simp <;> omega
    have d2 : decide ((97 : Int) ≤ (c : Int)) = true := by simp <;> omega
    have d3 : decide ((c : Int) ≤ 122) = true := by simp <;> omega
    have d4 : decide ((65 : Int) ≤ (c : Int)) = true := by simp <;> omega
    have d5 : decide ((c : Int) ≤ 90) = false := by simp <;> omega
    go_enter Tryf.func19, Tryf.ntmps19
    go_wp2
    all_goals go_ret
    all_goals exact ⟨ret_b (by rw [Bool.eq_iff_iff, inB_9]; first | (constructor <;> intro h9 <;> first | rfl | omega | (exfalso; first | omega | exact absurd h9 (by decide))) | (simp; omega)), rfl⟩
  · have d0 : decide ((48 : Int) ≤ (c : Int)) = true := by simp <;> omega
    have d1 : decide ((c : Int) ≤ 57) = false := by simp <;> omega
    have d2 : decide ((97 : Int) ≤ (c : Int)) = true := by simp <;> omega
    have d3 : decide ((c : Int) ≤ 122) = false := by simp <;> omega
    have d4 : decide ((65 : Int) ≤ (c : Int)) = true := by simp <;> omega
    have d5 : decide ((c : Int) ≤ 90) = false := by simp <;> omega
    go_enter Tryf.func19, Tryf.ntmps19
    go_wp2
    all_goals go_ret
    all_goals exact ⟨ret_b (by rw [Bool.eq_iff_iff, inB_9]; first | (constructor <;> intro h9 <;> first | rfl | omega | (exfalso; first | omega | exact absurd h9 (by decide))) | (simp; omega)), rfl⟩
set_option maxHeartbeats 4000000 in
set_option maxRecDepth 100000 in
theorem inClass_10 (c : Nat) (w : World) : Calls Tryf.prog 19 #[.int .i64 10, .int .u8 c] w fun e w' => e = .returned (.bool (inB 10 c)) ∧ w = w' := by
  have iv : c < 48 ∨ (48 ≤ c ∧ c ≤ 57) ∨ (57 < c ∧ c < 65) ∨ (65 ≤ c ∧ c ≤ 90) ∨ (90 < c ∧ c < 97) ∨ (97 ≤ c ∧ c ≤ 122) ∨ 122 < c := by omega
  rcases iv with h | ⟨h, h'⟩ | ⟨h, h'⟩ | ⟨h, h'⟩ | ⟨h, h'⟩ | ⟨h, h'⟩ | h
  · have d0 : decide ((48 : Int) ≤ (c : Int)) = false := by simp <;> omega
    have d2 : decide ((97 : Int) ≤ (c : Int)) = false := by simp <;> omega
    have d4 : decide ((65 : Int) ≤ (c : Int)) = false := by simp <;> omega
    go_enter Tryf.func19, Tryf.ntmps19
    go_wp2
    all_goals go_ret
    all_goals exact ⟨ret_b (by rw [Bool.eq_iff_iff, inB_10]; first | (constructor <;> intro h9 <;> first | rfl | omega | (exfalso; first | omega | exact absurd h9 (by decide))) | (simp; omega)), rfl⟩
  · have d0 : decide ((48 : Int) ≤ (c : Int)) = true := by simp <;> omega
    have d1 : decide ((c : Int) ≤ 57) = true := by simp <;> omega
    have d2 : decide ((97 : Int) ≤ (c : Int)) = false := by simp <;> omega
    have d4 : decide ((65 : Int) ≤ (c : Int)) = false := by simp <;> omega
    go_enter Tryf.func19, Tryf.ntmps19
    go_wp2
    all_goals go_ret
    all_goals exact ⟨ret_b (by rw [Bool.eq_iff_iff, inB_10]; first | (constructor <;> intro h9 <;> first | rfl | omega | (exfalso; first | omega | exact absurd h9 (by decide))) | (simp; omega)), rfl⟩
  · have d0 : decide ((48 : Int) ≤ (c : Int)) = true := by simp <;> omega
    have d1 : decide ((c : Int) ≤ 57) = false := by simp <;> omega
    have d2 : decide ((97 : Int) ≤ (c : Int)) = false := by simp <;> omega
    have d4 : decide ((65 : Int) ≤ (c : Int)) = false := by simp <;> omega
    go_enter Tryf.func19, Tryf.ntmps19
    go_wp2
    all_goals go_ret
    all_goals exact ⟨ret_b (by rw [Bool.eq_iff_iff, inB_10]; first | (constructor <;> intro h9 <;> first | rfl | omega | (exfalso; first | omega | exact absurd h9 (by decide))) | (simp; omega)), rfl⟩
  · have d0 : decide ((48 : Int) ≤ (c : Int)) = true := by simp <;> omega
    have d1 : decide ((c : Int) ≤ 57) = false := by simp <;> omega
    have d2 : decide ((97 : Int) ≤ (c : Int)) = false := by simp <;> omega
    have d4 : decide ((65 : Int) ≤ (c : Int)) = true := by simp <;> omega
    have d5 : decide ((c : Int) ≤ 90) = true := by simp <;> omega
    go_enter Tryf.func19, Tryf.ntmps19
    go_wp2
    all_goals go_ret
    all_goals exact ⟨ret_b (by rw [Bool.eq_iff_iff, inB_10]; first | (constructor <;> intro h9 <;> first | rfl | omega | (exfalso; first | omega | exact absurd h9 (by decide))) | (simp; omega)), rfl⟩
  · have d0 : decide ((48 : Int) ≤ (c : Int)) = true := by simp <;> omega
    have d1 : decide ((c : Int) ≤ 57) = false := by simp <;> omega
    have d2 : decide ((97 : Int) ≤ (c : Int)) = false := by simp <;> omega
    have d4 : decide ((65 : Int) ≤ (c : Int)) = true := by simp <;> omega
    have d5 : decide ((c : Int) ≤ 90) = false := by simp <;> omega
    go_enter Tryf.func19, Tryf.ntmps19
    go_wp2
    all_goals go_ret
    all_goals exact ⟨ret_b (by rw [Bool.eq_iff_iff, inB_10]; first | (constructor <;> intro h9 <;> first | rfl | omega | (exfalso; first | omega | exact absurd h9 (by decide))) | (simp; omega)), rfl⟩
  · have d0 : decide ((48 : Int) ≤ (c : Int)) = true := by simp <;> omega
    have d1 : decide ((c : Int) ≤ 57) = false := by simp <;> omega
    have d2 : decide ((97 : Int) ≤ (c : Int)) = true := by simp <;> omega
    have d3 : decide ((c : Int) ≤ 122) = true := by simp <;> omega
    have d4 : decide ((65 : Int) ≤ (c : Int)) = true := by simp <;> omega
    have d5 : decide ((c : Int) ≤ 90) = false := by simp <;> omega
    go_enter Tryf.func19, Tryf.ntmps19
    go_wp2
    all_goals go_ret
    all_goals exact ⟨ret_b (by rw [Bool.eq_iff_iff, inB_10]; first | (constructor <;> intro h9 <;> first | rfl | omega | (exfalso; first | omega | exact absurd h9 (by decide))) | (simp; omega)), rfl⟩
  · have d0 : decide ((48 : Int) ≤ (c : Int)) = true := by simp <;> omega
    have d1 : decide ((c : Int) ≤ 57) = false := by simp <;> omega
    have d2 : decide ((97 : Int) ≤ (c : Int)) = true := by simp <;> omega
    have d3 : decide ((c : Int) ≤ 122) = false := by simp <;> omega
    have d4 : decide ((65 : Int) ≤ (c : Int)) = true := by simp <;> omega
    have d5 : decide ((c : Int) ≤ 90) = false := by simp <;> omega
    go_enter Tryf.func19, Tryf.ntmps19
    go_wp2
    all_goals go_ret
    all_goals exact ⟨ret_b (by rw [Bool.eq_iff_iff, inB_10]; first | (constructor <;> intro h9 <;> first | rfl | omega | (exfalso; first | omega | exact absurd h9 (by decide))) | (simp; omega)), rfl⟩
set_option maxHeartbeats 4000000 in
set_option maxRecDepth 100000 in
theorem inClass_11 (c : Nat) (w : World) : Calls Tryf.prog 19 #[.int .i64 11, .int .u8 c] w fun e w' => e = .returned (.bool (inB 11 c)) ∧ w = w' := by
  have iv : c < 48 ∨ (48 ≤ c ∧ c ≤ 57) ∨ (57 < c ∧ c < 65) ∨ (65 ≤ c ∧ c ≤ 90) ∨ (90 < c ∧ c < 97) ∨ (97 ≤ c ∧ c ≤ 122) ∨ 122 < c := by omega
  rcases iv with h | ⟨h, h'⟩ | ⟨h, h'⟩ | ⟨h, h'⟩ | ⟨h, h'⟩ | ⟨h, h'⟩ | h
  · have d0 : decide ((48 : Int) ≤ (c : Int)) = false := by simp <;> omega
    have d2 : decide ((97 : Int) ≤ (c : Int)) = false := by simp <;> omega
    have d4 : decide ((65 : Int) ≤ (c : Int)) = false := by simp <;> omega
    go_enter Tryf.func19, Tryf.ntmps19
    go_wp2
    all_goals go_ret
    all_goals exact ⟨ret_b (by rw [Bool.eq_iff_iff, inB_11]; first | (constructor <;> intro h9 <;> first | rfl | omega | (exfalso; first | omega | exact absurd h9 (by decide))) | (simp; omega)), rfl⟩
  · have d0 : decide ((48 : Int) ≤ (c : Int)) = true := by simp <;> omega
    have d1 : decide ((c : Int) ≤ 57) = true := by simp <;> omega
    have d2 : decide ((97 : Int) ≤ (c : Int)) = false := by simp <;> omega
    have d4 : decide ((65 : Int) ≤ (c : Int)) = false := by simp <;> omega
    go_enter Tryf.func19, Tryf.ntmps19
    go_wp2
    all_goals go_ret
    all_goals exact ⟨ret_b (by rw [Bool.eq_iff_iff, inB_11]; first | (constructor <;> intro h9 <;> first | rfl | omega | (exfalso; first | omega | exact absurd h9 (by decide))) | (simp; omega)), rfl⟩
  · have d0 : decide ((48 : Int) ≤ (c : Int)) = true := by simp <;> omega
    have d1 : decide ((c : Int) ≤ 57) = false := by simp <;> omega
    have d2 : decide ((97 : Int) ≤ (c : Int)) = false := by simp <;> omega
    have d4 : decide ((65 : Int) ≤ (c : Int)) = false := by simp <;> omega
    go_enter Tryf.func19, Tryf.ntmps19
    go_wp2
    all_goals go_ret
    all_goals exact ⟨ret_b (by rw [Bool.eq_iff_iff, inB_11]; first | (constructor <;> intro h9 <;> first | rfl | omega | (exfalso; first | omega | exact absurd h9 (by decide))) | (simp; omega)), rfl⟩
  · have d0 : decide ((48 : Int) ≤ (c : Int)) = true := by simp <;> omega
    have d1 : decide ((c : Int) ≤ 57) = false := by simp <;> omega
    have d2 : decide ((97 : Int) ≤ (c : Int)) = false := by simp <;> omega
    have d4 : decide ((65 : Int) ≤ (c : Int)) = true := by simp <;> omega
    have d5 : decide ((c : Int) ≤ 90) = true := by simp <;> omega
    go_enter Tryf.func19, Tryf.ntmps19
    go_wp2
    all_goals go_ret
    all_goals exact ⟨ret_b (by rw [Bool.eq_iff_iff, inB_11]; first | (constructor <;> intro h9 <;> first | rfl | omega | (exfalso; first | omega | exact absurd h9 (by decide))) | (simp; omega)), rfl⟩
  · have d0 : decide ((48 : Int) ≤ (c : Int)) = true := by simp <;> omega
    have d1 : decide ((c : Int) ≤ 57) = false := by simp <;> omega
    have d2 : decide ((97 : Int) ≤ (c : Int)) = false := by simp <;> omega
    have d4 : decide ((65 : Int) ≤ (c : Int)) = true := by simp <;> omega
    have d5 : decide ((c : Int) ≤ 90) = false := by simp <;> omega
    go_enter Tryf.func19, Tryf.ntmps19
    go_wp2
    all_goals go_ret
    all_goals exact ⟨ret_b (by rw [Bool.eq_iff_iff, inB_11]; first | (constructor <;> intro h9 <;> first | rfl | omega | (exfalso; first | omega | exact absurd h9 (by decide))) | (simp; omega)), rfl⟩
  · have d0 : decide ((48 : Int) ≤ (c : Int)) = true := by simp <;> omega
    have d1 : decide ((c : Int) ≤ 57) = false := by simp <;> omega
    have d2 : decide ((97 : Int) ≤ (c : Int)) = true := by simp <;> omega
    have d3 : decide ((c : Int) ≤ 122) = true := by simp <;> omega
    have d4 : decide ((65 : Int) ≤ (c : Int)) = true := by simp <;> omega
    have d5 : decide ((c : Int) ≤ 90) = false := by simp <;> omega
    go_enter Tryf.func19, Tryf.ntmps19
    go_wp2
    all_goals go_ret
    all_goals exact ⟨ret_b (by rw [Bool.eq_iff_iff, inB_11]; first | (constructor <;> intro h9 <;> first | rfl | omega | (exfalso; first | omega | exact absurd h9 (by decide))) | (simp; omega)), rfl⟩
  · have d0 : decide ((48 : Int) ≤ (c : Int)) = true := by simp <;> omega
    have d1 : decide ((c : Int) ≤ 57) = false := by simp <;> omega
    have d2 : decide ((97 : Int) ≤ (c : Int)) = true := by simp <;> omega
    have d3 : decide ((c : Int) ≤ 122) = false := by simp <;> omega
    have d4 : decide ((65 : Int) ≤ (c : Int)) = true := by simp <;> omega
    have d5 : decide ((c : Int) ≤ 90) = false := by simp <;> omega
    go_enter Tryf.func19, Tryf.ntmps19
    go_wp2
    all_goals go_ret
    all_goals exact ⟨ret_b (by rw [Bool.eq_iff_iff, inB_11]; first | (constructor <;> intro h9 <;> first | rfl | omega | (exfalso; first | omega | exact absurd h9 (by decide))) | (simp; omega)), rfl⟩
set_option maxHeartbeats 4000000 in
set_option maxRecDepth 100000 in
theorem inClass_12 (c : Nat) (w : World) : Calls Tryf.prog 19 #[.int .i64 12, .int .u8 c] w fun e w' => e = .returned (.bool (inB 12 c)) ∧ w = w' := by
  have iv : c < 48 ∨ (48 ≤ c ∧ c ≤ 57) ∨ (57 < c ∧ c < 65) ∨ (65 ≤ c ∧ c ≤ 90) ∨ (90 < c ∧ c < 97) ∨ (97 ≤ c ∧ c ≤ 122) ∨ 122 < c := by omega
  rcases iv with h | ⟨h, h'⟩ | ⟨h, h'⟩ | ⟨h, h'⟩ | ⟨h, h'⟩ | ⟨h, h'⟩ | h
  · have d0 : decide ((48 : Int) ≤ (c : Int)) = false := by simp <;> omega
    have d2 : decide ((97 : Int) ≤ (c : Int)) = false := by simp <;> omega
    have d4 : decide ((65 : Int) ≤ (c : Int)) = false := by simp <;> omega
    go_enter Tryf.func19, Tryf.ntmps19
    go_wp2
    all_goals go_ret
    all_goals exact ⟨ret_b (by rw [Bool.eq_iff_iff, inB_12]; first | (constructor <;> intro h9 <;> first | rfl | omega | (exfalso; first | omega | exact absurd h9 (by decide))) | (simp; omega)), rfl⟩
  · have d0 : decide ((48 : Int) ≤ (c : Int)) = true := by simp <;> omega
    have d1 : decide ((c : Int) ≤ 57) = true := by simp <;> omega
    have d2 : decide ((97 : Int) ≤ (c : Int)) = false := by simp <;> omega
    have d4 : decide ((65 : Int) ≤ (c : Int)) = false := by simp <;> omega
    go_enter Tryf.func19, Tryf.ntmps19
    go_wp2
    all_goals go_ret
    all_goals exact ⟨ret_b (by rw [Bool.eq_iff_iff, inB_12]; first | (constructor <;> intro h9 <;> first | rfl | omega | (exfalso; first | omega | exact absurd h9 (by decide))) | (simp; omega)), rfl⟩
  · have d0 : decide ((48 : Int) ≤ (c : Int)) = true := by simp <;> omega
    have d1 : decide ((c : Int) ≤ 57) = false := by simp <;> omega
    have d2 : decide ((97 : Int) ≤ (c : Int)) = false := by simp <;> omega
    have d4 : decide ((65 : Int) ≤ (c : Int)) = false := by simp <;> omega
    go_enter Tryf.func19, Tryf.ntmps19
    go_wp2
    all_goals go_ret
    all_goals exact ⟨ret_b (by rw [Bool.eq_iff_iff, inB_12]; first | (constructor <;> intro h9 <;> first | rfl | omega | (exfalso; first | omega | exact absurd h9 (by decide))) | (simp; omega)), rfl⟩
  · have d0 : decide ((48 : Int) ≤ (c : Int)) = true := by simp <;> omega
    have d1 : decide ((c : Int) ≤ 57) = false := by simp <;> omega
    have d2 : decide ((97 : Int) ≤ (c : Int)) = false := by simp <;> omega
    have d4 : decide ((65 : Int) ≤ (c : Int)) = true := by simp <;> omega
    have d5 : decide ((c : Int) ≤ 90) = true := by simp <;> omega
    go_enter Tryf.func19, Tryf.ntmps19
    go_wp2
    all_goals go_ret
    all_goals exact ⟨ret_b (by rw [Bool.eq_iff_iff, inB_12]; first | (constructor <;> intro h9 <;> first | rfl | omega | (exfalso; first | omega | exact absurd h9 (by decide))) | (simp; omega)), rfl⟩
  · have d0 : decide ((48 : Int) ≤ (c : Int)) = true := by simp <;> omega
    have d1 : decide ((c : Int) ≤ 57) = false := by simp <;> omega
    have d2 : decide ((97 : Int) ≤ (c : Int)) = false := by simp <;> omega
    have d4 : decide ((65 : Int) ≤ (c : Int)) = true := by simp <;> omega
    have d5 : decide ((c : Int) ≤ 90) = false := by simp <;> omega
    go_enter Tryf.func19, Tryf.ntmps19
    go_wp2
    all_goals go_ret
    all_goals exact ⟨ret_b (by rw [Bool.eq_iff_iff, inB_12]; first | (constructor <;> intro h9 <;> first | rfl | omega | (exfalso; first | omega | exact absurd h9 (by decide))) | (simp; omega)), rfl⟩
  · have d0 : decide ((48 : Int) ≤ (c : Int)) = true := by simp <;> omega
    have d1 : decide ((c : Int) ≤ 57) = false := by simp <;> omega
    have d2 : decide ((97 : Int) ≤ (c : Int)) = true := by simp <;> omega
    have d3 : decide ((c : Int) ≤ 122) = true := by simp <;> omega
    have d4 : decide ((65 : Int) ≤ (c : Int)) = true := by simp <;> omega
    have d5 : decide ((c : Int) ≤ 90) = false := by simp <;> omega
    go_enter Tryf.func19, Tryf.ntmps19
    go_wp2
    all_goals go_ret
    all_goals exact ⟨ret_b (by rw [Bool.eq_iff_iff, inB_12]; first | (constructor <;> intro h9 <;> first | rfl | omega | (exfalso; first | omega | exact absurd h9 (by decide))) | (simp; omega)), rfl⟩
  · have d0 : decide ((48 : Int) ≤ (c : Int)) = true := by simp <;> omega
    have d1 : decide ((c : Int) ≤ 57) = false := by simp <;> omega
    have d2 : decide ((97 : Int) ≤ (c : Int)) = true := by simp <;> omega
    have d3 : decide ((c : Int) ≤ 122) = false := by simp <;> omega
    have d4 : decide ((65 : Int) ≤ (c : Int)) = true := by simp <;> omega
    have d5 : decide ((c : Int) ≤ 90) = false := by simp <;> omega
    go_enter Tryf.func19, Tryf.ntmps19
    go_wp2
    all_goals go_ret
    all_goals exact ⟨ret_b (by rw [Bool.eq_iff_iff, inB_12]; first | (constructor <;> intro h9 <;> first | rfl | omega | (exfalso; first | omega | exact absurd h9 (by decide))) | (simp; omega)), rfl⟩
theorem inClass_any (k c : Nat) (hk : k ≤ 12) (w : World) : Calls Tryf.prog 19 #[.int .i64 k, .int .u8 c] w fun e w' => e = .returned (.bool (inB k c)) ∧ w = w' := by
  have h : k = 0 ∨ k = 1 ∨ k = 2 ∨ k = 3 ∨ k = 4 ∨ k = 5 ∨ k = 6 ∨ k = 7 ∨ k = 8 ∨ k = 9 ∨ k = 10 ∨ k = 11 ∨ k = 12 := by omega
  rcases h with rfl | rfl | rfl | rfl | rfl | rfl | rfl | rfl | rfl | rfl | rfl | rfl | rfl
  · exact inClass_0 c w
  · exact inClass_1 c w
  · exact inClass_2 c w
  · exact inClass_3 c w
  · exact inClass_4 c w
  · exact inClass_5 c w
  · exact inClass_6 c w
  · exact inClass_7 c w
  · exact inClass_8 c w
  · exact inClass_9 c w
  · exact inClass_10 c w
  · exact inClass_11 c w
  · exact inClass_12 c w
/-- the classes of regular expressions have the same bytes -/
theorem clsB_inB (k c : Nat) (hc : c < 128) : Re.clsB k c = inB k c := by
  have h : k = 1 ∨ k = 2 ∨ k = 3 ∨ k = 4 ∨ k = 5 ∨ k = 6 ∨ k = 7 ∨ k = 8 ∨ k = 9 ∨ k = 10 ∨ k = 11 ∨ k = 12 ∨ k = 0 ∨ 12 < k := by omega
  rcases h with rfl | rfl | rfl | rfl | rfl | rfl | rfl | rfl | rfl | rfl | rfl | rfl | rfl | h
  · rw [Bool.eq_iff_iff, inB_1]; simp [Re.clsB, Re.clsR] <;> omega
  · rw [Bool.eq_iff_iff, inB_2]; simp [Re.clsB, Re.clsR] <;> omega
  · rw [Bool.eq_iff_iff, inB_3]; simp [Re.clsB, Re.clsR] <;> omega
  · rw [Bool.eq_iff_iff, inB_4]; simp [Re.clsB, Re.clsR] <;> omega
  · rw [Bool.eq_iff_iff, inB_5]; simp [Re.clsB, Re.clsR] <;> omega
  · rw [Bool.eq_iff_iff, inB_6]; simp [Re.clsB, Re.clsR] <;> omega
  · rw [Bool.eq_iff_iff, inB_7]; simp [Re.clsB, Re.clsR] <;> omega
  · rw [Bool.eq_iff_iff, inB_8]; simp [Re.clsB, Re.clsR] <;> omega
  · rw [Bool.eq_iff_iff, inB_9]; simp [Re.clsB, Re.clsR] <;> omega
  · rw [Bool.eq_iff_iff, inB_10]; simp [Re.clsB, Re.clsR] <;> omega
  · rw [Bool.eq_iff_iff, inB_11]; simp [Re.clsB, Re.clsR] <;> omega
  · rw [Bool.eq_iff_iff, inB_12]; simp [Re.clsB, Re.clsR] <;> omega
  · rfl
  · obtain ⟨m, rfl⟩ : ∃ m, k = m + 13 := ⟨k - 13, by omega⟩
    rfl
end Go.Proofs.YtonifkkdokaooaaFmt
