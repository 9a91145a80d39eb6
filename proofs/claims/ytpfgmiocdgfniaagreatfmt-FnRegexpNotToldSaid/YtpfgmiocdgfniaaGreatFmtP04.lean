/- Joined by pack.py: Lex. -/
import Derived.Test.YtpfgmiocdgfniaaGreatFmtP01
import Derived.Deep.QuietTactic
import Derived.BigQuiet
import Derived.StillTailTactics
import Derived.Deep.RegionWith
import Derived.Shelf.Spec.BytesIndexFunc
import Derived.IntWalk
import Derived.WalkSmall
import Derived.Shelf.Unicode.DecodeLastEight
set_option linter.unusedVariables false
set_option maxHeartbeats 8000000
set_option maxRecDepth 1000000
namespace Go.Proofs.YtpfgmiocdgfniaaGreatFmt
open Go.RowKit
def nx (s : ByteArray) (i : Nat) : Nat × Nat := if i < s.size then ((Utf8.decode s i).1, i + (Utf8.decode s i).2) else (0, i)
def Lx (ls : Nat) (s : ByteArray) (i : Nat) (w : World) : Prop := w.heap[ls]? = some (.cells #[.string s, .int .i64 i] 80 (0, 0))
abbrev Tabs (w : World) : Prop := Lib.Utf8Tabs 4 5 w
theorem bdn (w : World) (n : Nat) : Below w.heap.size w (w.drewN n) := ⟨rfl, rfl, rfl, Nat.le_refl _, fun _ _ => rfl⟩
theorem peekNext_any (ls : Nat) (s : ByteArray) (i : Nat) (w : World) (hL : Lx ls s i w) (hi : i ≤ s.size) (hs : s.size ≤ 4611686018427387904) (hT : Tabs w) :
    Calls Tryz.prog 40 #[.pointer (some ⟨ls, 0, none⟩)] w fun e w' => e = .returned (.int .i32 (nx s i).1) ∧ Below w.heap.size w w' := by
  have c0 : w.cell? ⟨ls, 0, none⟩ = some (.string s) := by rw [Lib.cell_of_heap hL]; rfl
  have c1 : w.cell? ⟨ls, 1, none⟩ = some (.int .i64 i) := by rw [Lib.cell_of_heap hL]; rfl
  have HT := Lib.hid hT
  clear hT
  by_cases h : i < s.size
  · have e1 : nx s i = ((Utf8.decode s i).1, i + (Utf8.decode s i).2) := by simp [nx, h]
    have hd := Tryz.utf8_DecodeRuneInString (s.extract i s.size)
    rw [decodeGo_tail s i h] at hd
    rw [e1]
    have HD := Lib.hid hd
    clear hd e1
    have hlt : ¬ (s.size : Int) ≤ (i : Int) := by omega
    go_enter Tryz.func40, Tryz.ntmps40
    go_wp2
    go_quiet (fail)
    have hb1 : Below w.heap.size w (w.drewN nq) := bdn _ nq
    have c0 : (w.drewN nq).cell? ⟨ls, 0, none⟩ = some (.string s) := c0
    have c1 : (w.drewN nq).cell? ⟨ls, 1, none⟩ = some (.int .i64 i) := c1
    have HT1 : Hid (Tabs (w.drewN nq)) := Lib.hid HT.out
    generalize w.drewN nq = w1 at *
    go_wp2
    go_region_with (go_at_call 62; refine (HD.out _ ?_).mono ?_; exact HT1.out; rintro e w2 ⟨rfl, hb2⟩)
    all_goals
      go_wp2
      go_ret
      exact ⟨rfl, (hb1.drew).trans (hb2.mono hb1.size)⟩
  · have e1 : nx s i = (0, i) := by simp [nx, h]
    rw [e1]
    have hge : (s.size : Int) ≤ (i : Int) := by omega
    go_enter Tryz.func40, Tryz.ntmps40
    go_wp2
    go_quiet (fail)
    go_wp2
    go_ret
    exact ⟨rfl, bdn _ nq⟩
theorem cells_of {ls : Nat} {s : ByteArray} {i : Nat} {w : World} (hL : Lx ls s i w) : w.cell? ⟨ls, 0, none⟩ = some (.string s) ∧ w.cell? ⟨ls, 1, none⟩ = some (.int .i64 i) ∧ w.frozen? ⟨ls, 1, none⟩ = false ∧ ls < w.heap.size :=
  ⟨by rw [Lib.cell_of_heap hL]; rfl, by rw [Lib.cell_of_heap hL]; rfl, Lib.frozen_of_heap hL 1, (Array.getElem?_eq_some_iff.1 hL).1⟩
theorem Lx.set {ls : Nat} {s : ByteArray} {i j : Nat} {w : World} (hL : Lx ls s i w) : Lx ls s j (w.setCell ⟨ls, 1, none⟩ (.int .i64 j)) := by
  unfold Lx at hL ⊢
  simp [World.setCell, Array.getElem?_modify, hL]
theorem Lx.kept {ls : Nat} {s : ByteArray} {i : Nat} {w w' : World} {X : Nat → Prop} (hL : Lx ls s i w) (h : Kp X w w') (hX : ¬ X ls) : Lx ls s i w' := h.heap hX hL
theorem next_any (ls : Nat) (s : ByteArray) (i : Nat) (w : World) (hL : Lx ls s i w) (hi : i ≤ s.size) (hs : s.size ≤ 4611686018427387904) (hT : Tabs w) :
    Calls Tryz.prog 39 #[.pointer (some ⟨ls, 0, none⟩)] w fun e w' => e = .returned (.int .i32 (nx s i).1) ∧ Lx ls s (nx s i).2 w' ∧ Kp (· = ls) w w' := by
  obtain ⟨c0, c1, hfz, hlt0⟩ := cells_of hL
  have HT := Lib.hid hT
  have HL := Lib.hid hL
  clear hT hL
  by_cases h : i < s.size
  · have e1 : nx s i = ((Utf8.decode s i).1, i + (Utf8.decode s i).2) := by simp [nx, h]
    have hd := Tryz.utf8_DecodeRuneInString (s.extract i s.size)
    have hle := Lib.decodeGo_le4 (s.extract i s.size)
    rw [decodeGo_tail s i h] at hd hle
    rw [e1]
    have HD := Lib.hid hd
    clear hd e1
    generalize (Utf8.decode s i).1 = r at *
    generalize (Utf8.decode s i).2 = wd at *
    have hlt : ¬ (s.size : Int) ≤ (i : Int) := by omega
    go_enter Tryz.func39, Tryz.ntmps39
    go_wp2
    go_quiet (fail)
    have hb1 : Below w.heap.size w (w.drewN nq) := bdn _ nq
    have c0 : (w.drewN nq).cell? ⟨ls, 0, none⟩ = some (.string s) := c0
    have c1 : (w.drewN nq).cell? ⟨ls, 1, none⟩ = some (.int .i64 i) := c1
    have HT1 : Hid (Tabs (w.drewN nq)) := Lib.hid HT.out
    generalize w.drewN nq = w1 at *
    go_wp2
    go_region_with (go_at_call 62; refine (HD.out _ ?_).mono ?_; exact HT1.out; rintro e w2 ⟨rfl, hb2⟩)
    all_goals
      have hb3 : Below w.heap.size w w2 := (hb1.drew).trans (hb2.mono hb1.size)
      have hL2 : Lx ls s i w2 := (hb3.block ls hlt0).trans HL.out
      obtain ⟨d0, d1, dfz, hlt2⟩ := cells_of hL2
      have HL2 := Lib.hid hL2
      clear hL2 hb1 hb2 c0 c1 hfz
      go_wp2
      go_ret
      exact ⟨rfl, by have := (HL2.out).set (j := i + wd); simpa using this, (Kp.of_below (X := (· = ls)) hb3).setCell (p := ⟨ls, 1, none⟩) (.inl rfl) _⟩
  · have e1 : nx s i = (0, i) := by simp [nx, h]
    rw [e1]
    have hge : (s.size : Int) ≤ (i : Int) := by omega
    go_enter Tryz.func39, Tryz.ntmps39
    go_wp2
    go_quiet (fail)
    go_wp2
    go_ret
    exact ⟨rfl, HL.out, .of_below (bdn _ nq)⟩
def lastR (s : ByteArray) (i : Nat) : Nat := if i < 2 then 0 else (Lib.decodeLastL (s.extract 0 (i - 1)).data.toList).1
theorem last_any (ls : Nat) (s : ByteArray) (i : Nat) (w : World) (hL : Lx ls s i w) (hi : i ≤ s.size) (hs : s.size ≤ 4611686018427387904) (hT : Tabs w) :
    Calls Tryz.prog 41 #[.pointer (some ⟨ls, 0, none⟩)] w fun e w' => e = .returned (.int .i32 (lastR s i)) ∧ Below w.heap.size w w' := by
  obtain ⟨c0, c1, hfz, hlt0⟩ := cells_of hL
  have HT := Lib.hid hT
  clear hT hL hfz
  by_cases h : i < 2
  · have e1 : lastR s i = 0 := by simp [lastR, h]
    rw [e1]
    go_enter Tryz.func41, Tryz.ntmps41
    go_wp2
    go_ret
    exact ⟨rfl, Below.refl _ _⟩
  · have e1 : lastR s i = (Lib.decodeLastL (s.extract 0 (i - 1)).data.toList).1 := by simp [lastR, h]
    have hd := fun w => Tryz.utf8_DecodeLastRuneInString (s.extract 0 (i - 1)) w (by rw [ByteArray.size_extract]; omega)
    rw [e1]
    have HD := Lib.hid hd
    clear hd e1
    generalize (Lib.decodeLastL (s.extract 0 (i - 1)).data.toList) = dl at *
    have hz1 : ((i : Int) - 1).toNat = i - 1 := by omega
    have hz2 : IntKind.i64.wrap ((i : Int) - 1) = (i : Int) - 1 := IntWalk.i64_in _ (by omega)
    have hz3 : (0 : Int) ≤ (i : Int) - 1 := by omega
    have hz4 : (i : Int) - 1 ≤ (s.size : Int) := by omega
    go_enter Tryz.func41, Tryz.ntmps41
    go_wp2
    go_region_with (go_at_call 63; refine (HD.out _ ?_).mono ?_; exact HT.out; rintro e w2 ⟨rfl, hb2⟩)
    all_goals
      go_wp2
      go_ret
      exact ⟨rfl, ((Below.refl _ _).drew).trans hb2⟩
theorem peekRest_any (ls : Nat) (s : ByteArray) (i : Nat) (w : World) (hL : Lx ls s i w) (hi : i ≤ s.size) (hs : s.size ≤ 4611686018427387904) :
    Calls Tryz.prog 45 #[.pointer (some ⟨ls, 0, none⟩)] w fun e w' => e = .returned (.string (s.extract i s.size)) ∧ Below w.heap.size w w' := by
  obtain ⟨c0, c1, hfz, hlt0⟩ := cells_of hL
  clear hL hfz
  have hz : (i : Int) ≤ (s.size : Int) := by omega
  go_enter Tryz.func45, Tryz.ntmps45
  go_wp2
  go_quiet (fail)
  go_wp2
  go_ret
  exact ⟨rfl, bdn _ nq⟩
end Go.Proofs.YtpfgmiocdgfniaaGreatFmt
