/- Joined by pack.py: FmtF, Search. -/
import Derived.Test.YtjoefmnkbcoblaaFmtP01
import Derived.Stop.CallBack
import Derived.Stop.IfaceNil
import Derived.WalkSpells
import Derived.WalkLawsBesides
import GoSem.ClaimData
import Derived.Deep.QuietTactic
import Derived.BigQuiet
import Derived.IntWalk
/- Closed facts of the stopped functions of fmt at this dump; the contracts of fmt.Errorf and fmt.Sprintf as they are called here. -/
namespace Go.Proofs.YtjoefmnkbcoblaaFmt
open Go.RowKit Go.Extern.Stop Go.Stop Go.Extern
set_option linter.unusedVariables false

@[go_sem] theorem callErrorf (args : Array Value) (w : World) : (callFunc 83 args).run Tryf.prog w = ((FmtStop.errorf #[9, 139] #[42] args).run Tryf.prog w).andThen fun v w' => .ok (.value v) w' :=
  run_callFunc_extern Tryf.func83 (by kernel_rfl) (by kernel_rfl) (by kernel_rfl) (by kernel_rfl) args w
@[go_sem] theorem callSprintf (args : Array Value) (w : World) : (callFunc 47 args).run Tryf.prog w = ((FmtStop.sprintf #[9, 139] #[9] args).run Tryf.prog w).andThen fun v w' => .ok (.value v) w' :=
  run_callFunc_extern Tryf.func47 (by kernel_rfl) (by kernel_rfl) (by kernel_rfl) (by kernel_rfl) args w
@[go_sem] theorem fmtGuard (name : String) (w : World) : (FmtStop.guard name).run Tryf.prog w = .ok () w := by kernel_rfl
/- invalid character class: %q -/
@[go_sem] theorem fmtQ (w : World) : (FmtDoors.printed ⟨#[105, 110, 118, 97, 108, 105, 100, 32, 99, 104, 97, 114, 97, 99, 116, 101, 114, 32, 99, 108, 97, 115, 115, 58, 32, 37, 113]⟩ 1).run Tryf.prog w = .ok [(0, 113, false)] w := by kernel_rfl
/- invalid range: %c-%c -/
@[go_sem] theorem fmtC : FmtStop.printed? ⟨#[105, 110, 118, 97, 108, 105, 100, 32, 114, 97, 110, 103, 101, 58, 32, 37, 99, 45, 37, 99]⟩ 2 = some [(0, 99, false), (1, 99, false)] := by kernel_rfl
def shapeS : List UInt8 := [12, 6, 0, 0, 0, 0, 0, 0, 0, 115, 116, 114, 105, 110, 103]
@[go_sem] theorem opS (name : String) (x : ByteArray) (w : World) : (FmtStop.operand name true 113 false (.iface 9 (.string x))).run Tryf.prog w = .ok (shapeS, FmtStop.pack x.data.toList) w := by kernel_rfl
@[go_sem] theorem ptrErr (w : World) : (FmtStop.ptrTo "errors.errorString").run Tryf.prog w = .ok 146 w := by kernel_rfl
@[go_sem] theorem elemErr (w : World) : (elemOf 146).run Tryf.prog w = .ok 148 w := by kernel_rfl

/-- an error of errors.New's make, in new memory -/
def NewErr (w : World) (e : Ending) (w' : World) : Prop := ∃ k, w.heap.size ≤ k ∧ k < w'.heap.size ∧ e = .returned (.iface 146 (.pointer (some ⟨k, 0, none⟩))) ∧ Below w.heap.size w w'

theorem errorf_plain1 (w : World) : Calls Tryf.prog 68 #[.string ⟨#[99, 111, 108, 108, 97, 116, 105, 110, 103, 32, 102, 101, 97, 116, 117, 114, 101, 115, 32, 110, 111, 116, 32, 97, 118, 97, 105, 108, 97, 98, 108, 101]⟩, .slice none 0 0] w (NewErr w) := by
  go_enter Tryf.func68, Tryf.ntmps68
  go_wp2
  go_ret
  exact ⟨w.heap.size, Nat.le_refl _, by simp, rfl, (Below.refl _ _).alloc (Nat.le_refl _) _⟩
theorem errorf_plain2 (w : World) : Calls Tryf.prog 68 #[.string ⟨#[91, 91, 58, 32, 119, 97, 115, 32, 110, 111, 116, 32, 109, 97, 116, 99, 104, 101, 100, 32, 119, 105, 116, 104, 32, 97, 32, 99, 108, 111, 115, 105, 110, 103, 32, 58, 93]⟩, .slice none 0 0] w (NewErr w) := by
  go_enter Tryf.func68, Tryf.ntmps68
  go_wp2
  go_ret
  exact ⟨w.heap.size, Nat.le_refl _, by simp, rfl, (Below.refl _ _).alloc (Nat.le_refl _) _⟩
theorem errorf_q (F : Interp) (b : Nat) (nm : ByteArray) (w : World) (hF : F.answers w.tape) (hc : w.cell? ⟨b, 0, none⟩ = some (.iface 9 (.string nm))) :
    Calls Tryf.prog 68 #[.string ⟨#[105, 110, 118, 97, 108, 105, 100, 32, 99, 104, 97, 114, 97, 99, 116, 101, 114, 32, 99, 108, 97, 115, 115, 58, 32, 37, 113]⟩, .slice (some ⟨b, 0, none⟩) 1 1] w (NewErr w) := by
  have hF' := answers_open hF
  go_enter Tryf.func68, Tryf.ntmps68
  go_wp2
  go_ret
  exact ⟨w.heap.size, Nat.le_refl _, by simp, rfl, ((Below.refl _ _).alloc (Nat.le_refl _) _).drew⟩
end Go.Proofs.YtjoefmnkbcoblaaFmt

/- Walks: zzIndex, zzContains, zzCut. -/
namespace Go.Proofs.YtjoefmnkbcoblaaFmt
open Go.RowKit
set_option linter.unusedVariables false

/-- sub stands in l at place i -/
def atL (l sub : List UInt8) (i : Nat) : Bool := (l.drop i).take sub.length == sub
/-- the first place where sub stands in l -/
def idx (l sub : List UInt8) : Option Nat := (List.range (l.length + 1 - sub.length)).find? (atL l sub)
def idxI (l sub : List UInt8) : Int := match idx l sub with | some k => (k : Int) | none => -1

theorem extract_list (s : ByteArray) (a b : Nat) : (s.extract a b).data.toList = (s.data.toList.drop a).take (b - a) := by
  rw [ByteArray.data_extract, Array.toList_extract, List.extract_eq_take_drop]

theorem toList_data (s : ByteArray) : s.toList = s.data.toList := by rw [ByteArray.toList_eq]
theorem ret_int {k : IntKind} {a b : Int} (h : a = b) : Ending.returned (.int k a) = .returned (.int k b) := by rw [h]
theorem idx_le (l sub : List UInt8) (k : Nat) (h : idx l sub = some k) : k + sub.length ≤ l.length := by
  have := List.mem_of_find?_eq_some h
  simp at this; omega
theorem idxI_at (l sub : List UInt8) (k : Nat) (hk : k + sub.length ≤ l.length) (h : ∀ j, j < k → atL l sub j = false) (h1 : atL l sub k = true) : idxI l sub = (k : Int) := by
  have : idx l sub = some k := by
    unfold idx
    rw [List.find?_range_eq_some]
    exact ⟨h1, by simp; omega, fun j hj => by simp [h j hj]⟩
  simp [idxI, this]
theorem idxI_none (l sub : List UInt8) (k : Nat) (hk : l.length < k + sub.length) (h : ∀ j, j < k → atL l sub j = false) : idxI l sub = -1 := by
  have : idx l sub = none := by
    unfold idx
    rw [List.find?_eq_none]
    intro j hj
    simp at hj
    simp [h j (by omega)]
  simp [idxI, this]

set_option maxHeartbeats 1000000 in
theorem zzIndex_any (s sub : ByteArray) (w : World) (hs : s.size ≤ 4611686018427387904) (hu : sub.size ≤ 1000) :
    Calls Tryf.prog 70 #[.string s, .string sub] w fun e w' => e = .returned (.int .i64 (idxI s.data.toList sub.data.toList)) ∧ w = w' := by
  go_enter Tryf.func70, Tryf.ntmps70
  go_wp2
  go_loop [5] (fun i => ∃ k : Nat, k ≤ s.size + 1 ∧ i = .int .i64 k ∧ Hid (∀ j, j < k → atL s.data.toList sub.data.toList j = false)) (fun i => s.size + 1 - (intOf i).toNat)
  case atStart => exact ⟨0, Nat.zero_le _, rfl, Lib.hid (by intro j hj; omega)⟩
  case round =>
    obtain ⟨k, hk, rfl, H⟩ := hrel
    by_cases hlt : k + sub.size ≤ s.size
    · have hat : atL s.data.toList sub.data.toList k = ((s.extract k (k + sub.size)).toList == sub.toList) := by
        rw [toList_data, toList_data, extract_list, atL, Pat.size_toList, show k + sub.size - k = sub.size from by omega]
      have HAT := Lib.hid hat
      clear hat
      go_wp2
      · go_ret
        refine ⟨ret_int ?_, rfl⟩
        rw [idxI_at _ _ k (by rw [Pat.size_toList, Pat.size_toList]; omega) H.out (by rw [HAT.out]; assumption)]
      · go_round
        case rel =>
          refine ⟨k + 1, by omega, by go_num, Lib.hid ?_⟩
          intro j hj
          by_cases e : j = k
          · subst e; rw [HAT.out]; assumption
          · exact H.out j (by omega)
        case measure => simp [intOf]; omega
    · go_wp2
      go_ret
      refine ⟨ret_int ?_, rfl⟩
      rw [idxI_none _ _ k (by rw [Pat.size_toList, Pat.size_toList]; omega) H.out]

theorem zzContains_any (s sub : ByteArray) (w : World) (hs : s.size ≤ 4611686018427387904) (hu : sub.size ≤ 1000) :
    Calls Tryf.prog 50 #[.string s, .string sub] w fun e w' => e = .returned (.bool (idx s.data.toList sub.data.toList).isSome) ∧ w = w' := by
  have hz := zzIndex_any s sub
  cases hi : idx s.data.toList sub.data.toList with
  | none =>
    simp only [idxI, hi] at hz
    have HZ := Lib.hid hz
    clear hz hi
    go_enter Tryf.func50, Tryf.ntmps50
    go_wp2_with fail
    refine (HZ.out _ hs hu).mono ?_; rintro e w' ⟨rfl, rfl⟩
    go_wp2_with fail
    go_ret
    exact ⟨rfl, rfl⟩
  | some k =>
    simp only [idxI, hi] at hz
    have HZ := Lib.hid hz
    clear hz hi
    have h0 : (0 : Int) ≤ (k : Int) := by omega
    go_enter Tryf.func50, Tryf.ntmps50
    go_wp2_with fail
    refine (HZ.out _ hs hu).mono ?_; rintro e w' ⟨rfl, rfl⟩
    go_wp2_with fail
    go_ret
    exact ⟨by simp, rfl⟩

set_option maxRecDepth 100000 in
theorem zzCut_any (s sub : ByteArray) (w : World) (hs : s.size ≤ 4611686018427387904) (hu : sub.size ≤ 1000) :
    Calls Tryf.prog 67 #[.string s, .string sub] w fun e w' => (match idx s.data.toList sub.data.toList with | some k => e = .returned (.tuple #[.string (s.extract 0 k), .string (s.extract (k + sub.size) s.size), .bool true]) | none => e = .returned (.tuple #[.string s, .string ⟨#[]⟩, .bool false])) ∧ Below w.heap.size w w' := by
  have hz := zzIndex_any s sub
  cases hi : idx s.data.toList sub.data.toList with
  | none =>
    simp only [idxI, hi] at hz
    have HZ := Lib.hid hz
    clear hz hi
    go_enter Tryf.func67, Tryf.ntmps67
    go_wp2_with fail
    refine (HZ.out _ hs hu).mono ?_; rintro e w' ⟨rfl, rfl⟩
    go_wp2_with fail
    go_ret3
    exact ⟨rfl, Below.refl _ _⟩
  | some k =>
    simp only [idxI, hi] at hz
    have HZ := Lib.hid hz
    have hk := idx_le _ _ _ hi
    rw [Pat.size_toList, Pat.size_toList] at hk
    clear hz hi
    have h0 : (0 : Int) ≤ (k : Int) := by omega
    have h1 : (k : Int) ≤ (s.size : Int) := by omega
    have h2 : IntKind.i64.wrap ((k : Int) + (sub.size : Int)) = (k : Int) + (sub.size : Int) := IntWalk.i64_in _ (by omega)
    have h3 : ((k : Int) + (sub.size : Int)).toNat = k + sub.size := by omega
    have h4 : (0 : Int) ≤ (k : Int) + (sub.size : Int) := by omega
    have h5 : (k : Int) + (sub.size : Int) ≤ (s.size : Int) := by omega
    go_enter Tryf.func67, Tryf.ntmps67
    go_wp2_with fail
    refine (HZ.out _ hs hu).mono ?_; rintro e w' ⟨rfl, rfl⟩
    go_wp2_with fail
    go_quiet (fail)
    go_wp2_with fail
    go_ret3
    exact ⟨rfl, ⟨rfl, rfl, rfl, Nat.le_refl _, fun _ _ => rfl⟩⟩
end Go.Proofs.YtjoefmnkbcoblaaFmt
