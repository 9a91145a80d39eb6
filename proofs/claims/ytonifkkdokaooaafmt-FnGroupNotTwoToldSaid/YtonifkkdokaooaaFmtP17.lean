/- Joined by pack.py: Builder, Frame, Search, FmtF. -/
import Derived.Test.YtonifkkdokaooaaFmtChecked
import Derived.Test.YtonifkkdokaooaaFmtShelf
import Derived.Shelf.Strings.BuilderK
import Derived.Shelf.Strings.BuilderRune
import Derived.WalkKit
import Derived.BigCall
import Derived.Outline
import Derived.Lib.Hide
import Derived.Test.YtonifkkdokaooaaFmtP01
import Derived.WalkLawsBesides
import Derived.WalkSpells
import Derived.Deep.QuietTactic
import Derived.BigQuiet
import Derived.IntWalk
import Derived.Stop.CallBack
import Derived.Stop.IfaceNil
import GoSem.ClaimData
/- Contracts of strings.Builder's writers at this dump (copyCheck, WriteByte, WriteRune), after the kit's shelf (Strings/BuilderK, BuilderRune), whose layings do not fit this dump's copyCheck. -/
namespace Go.Proofs.YtonifkkdokaooaaFmt
open Go.RowKit
set_option linter.unusedVariables false

theorem sizeBuilder : (Tryf.prog.info? 62).map (·.size) = some 2 := by kernel_rfl
theorem liesBuilder : liesAt Tryf.prog Tryf.prog.depth 62 (2 / Tryf.prog.cellsOf 62) 0 62 1 = true := by kernel_rfl
theorem infoByte : (Tryf.prog.info? 5).map (fun i => (i.zero, i.size, i.bytes)) = some (some (.int .u8 0), 1, 1) := by kernel_rfl

set_option maxHeartbeats 1000000 in
set_option maxRecDepth 100000 in
theorem copyCheck_used (b : Nat) (w : World) (h0 : w.cell? ⟨b, 0, none⟩ = some (.pointer (some ⟨b, 0, none⟩))) :
    Calls Tryf.prog 40 #[.pointer (some ⟨b, 0, none⟩)] w fun e w' => e = .returned (.tuple #[]) ∧ w' = w := by
  obtain ⟨j, hj, _⟩ := Option.map_eq_some_iff.1 sizeBuilder
  go_enter Tryf.func40, Tryf.ntmps40
  go_wp2
  rw [Lib.run_neq_ptr_same w _ Tryf.underlying60 hj]
  go_wp2
  go_end0
  exact ⟨rfl, rfl⟩

set_option maxHeartbeats 1000000 in
set_option maxRecDepth 100000 in
theorem copyCheck_fresh (b : Nat) (w : World) (h0 : w.cell? ⟨b, 0, none⟩ = some (.pointer none)) (hsh : w.shape? b = some (62, 2)) (hfz : w.frozen? ⟨b, 0, none⟩ = false) :
    Calls Tryf.prog 40 #[.pointer (some ⟨b, 0, none⟩)] w fun e w' => e = .returned (.tuple #[]) ∧ w' = w.setCell ⟨b, 0, none⟩ (.pointer (some ⟨b, 0, none⟩)) := by
  obtain ⟨j, hj, hjs⟩ := Option.map_eq_some_iff.1 sizeBuilder
  go_enter Tryf.func40, Tryf.ntmps40
  go_wp2
  rw [Lib.run_to_unsafe w ⟨b, 0, none⟩ Tryf.underlying60 Tryf.underlying71 hj (by rw [hjs]; decide) hsh (Nat.zero_lt_succ 1)]
  simp only [Result.andThen]
  rw [Oper.upon_value]
  go_wp2
  rw [run_callFunc_extern Tryf.func64 (by kernel_rfl) (by kernel_rfl) (by kernel_rfl) (e := Extern.AbiNoEscape.same) (by kernel_rfl)]
  rw [Lib.run_noEscape]
  simp only [Result.andThen]
  rw [Oper.upon_value]
  go_wp2
  rw [Lib.run_from_unsafe w ⟨b, 0, none⟩ Tryf.underlying71 Tryf.underlying60 hj hsh liesBuilder]
  simp only [Result.andThen]
  rw [Oper.upon_value]
  go_wp2
  go_end0
  exact ⟨rfl, rfl⟩

abbrev BT : TypeId := 62
abbrev U8 : TypeId := 5
/-- a builder in block b, made by the call, holding bytes -/
abbrev IsB (B b : Nat) (bs : List Value) (w : World) : Prop := Lib.IsBuilderF 62 5 B b bs w
/-- the frame: all that lay below B stands, and every block but b that is no row of bytes -/
def Frame (B b : Nat) (w w' : World) : Prop := Below B w w' ∧ Lib.OthersKept 5 (some b) w w'

theorem copyCheck_any (B b : Nat) (bs : List Value) (w : World) (h : IsB B b bs w) :
    Calls Tryf.prog 40 #[.pointer (some ⟨b, 0, none⟩)] w fun e w' => e = .returned (.tuple #[]) ∧ (Lib.BuilderAtF 62 5 B b (.pointer (some ⟨b, 0, none⟩)) bs w' ∧ Below B w w' ∧ Lib.OthersKept 5 (some b) w w') := by
  rcases h with h | h
  · refine (copyCheck_fresh b w h.cell0 h.shape h.frozen0).mono ?_
    rintro e w' ⟨rfl, rfl⟩
    exact ⟨rfl, h.used _, (Below.refl B w).setCell (p := ⟨b, 0, none⟩) h.1 _, (Lib.OthersKept.refl _ _ w).setCell ⟨b, 0, none⟩ rfl _⟩
  · refine (copyCheck_used b w h.cell0).mono ?_
    rintro e w' ⟨rfl, rfl⟩
    exact ⟨rfl, h, Below.refl B _, Lib.OthersKept.refl _ _ _⟩

set_option maxHeartbeats 2000000 in
set_option maxRecDepth 100000 in
theorem writeByte_any (B b : Nat) (bs : List Value) (c : Int) (w : World) (h : IsB B b bs w) (hlen : bs.length + 1 ≤ 140737488355328) (hBw : B ≤ w.heap.size) :
    Calls Tryf.prog 45 #[.pointer (some ⟨b, 0, none⟩), .int .u8 c] w fun e w' => e = .returned .nilIface ∧ IsB B b (bs ++ [.int .u8 c]) w' ∧ Frame B b w w' := by
  obtain ⟨i0, hi, hz0, hz1, hz2⟩ := info_parts infoByte
  go_enter Tryf.func45, Tryf.ntmps45
  go_wp2_with (go_at_call 40; refine (copyCheck_any B b bs _ h).mono ?_)
  rintro e w1 ⟨rfl, h1, hb1, hk1⟩
  obtain ⟨hB, v, hbk, hown, hne⟩ := h1
  have c0 : w1.cell? ⟨b, 0, none⟩ = some (.pointer (some ⟨b, 0, none⟩)) := by rw [Lib.cell_of_heap hbk]; rfl
  have c1 : w1.cell? ⟨b, 1, none⟩ = some v := by rw [Lib.cell_of_heap hbk]; rfl
  go_wp2_with (at_builtin; refine wpList_append_ownF _ rfl _ _ 33 rfl B 5 i0 (.int .u8 0) 1 1 Tryf.underlying33 hi hz0 hz1 hz2 rfl (by decide) _ _ _ rfl (hown.alloc _) ⟨w1.heap.size, 0, none⟩ 1 1 [.int .u8 c] rfl rfl ?c1 ?c2 ?c3 ?c4 ?c5 ?_)
  case c1 =>
    intro j u hj
    match j, hj with
    | 0, hj => simp at hj; subst hj; simp [Addr.add]
  case c2 => intro u hu; simp at hu; subst hu; rfl
  case c3 => unfold maxLen; omega
  case c4 => omega
  case c5 => have := hb1.size; simp; omega
  intro v' w2 hown' hgrow _
  have hlt : b < w1.heap.size := by
    rcases Nat.lt_or_ge b w1.heap.size with h' | h'
    · exact h'
    · simp [Array.getElem?_eq_none h'] at hbk
  have hb2 : w2.heap[b]? = some (.cells #[.pointer (some ⟨b, 0, none⟩), v] 62 (0, 0)) := by
    rw [hgrow.block b (by simp; omega) (fun e => hne e.symm), Lib.alloc_old w1 _ b hlt]
    exact hbk
  have d0 : w2.cell? ⟨b, 0, none⟩ = some (.pointer (some ⟨b, 0, none⟩)) := by rw [Lib.cell_of_heap hb2]; rfl
  have d1 : w2.cell? ⟨b, 1, none⟩ = some v := by rw [Lib.cell_of_heap hb2]; rfl
  have f1 : w2.frozen? ⟨b, 1, none⟩ = false := Lib.frozen_of_heap hb2 1
  obtain ⟨g, cap, rfl⟩ : ∃ g cap, v' = .slice (some ⟨g, 0, none⟩) (bs.length + 1) cap := by
    rcases hown'.2 with ⟨_, h0⟩ | ⟨g, cap, cur, fz, hv, _⟩
    · omega
    · exact ⟨g, cap, hv⟩
  go_wp2
  go_ret
  refine ⟨rfl, Or.inr ?_, ?_, ((hk1.alloc _).grown hgrow (Lib.ownsRowF_kind (hown.alloc _))).setCell ⟨b, 1, none⟩ rfl _⟩
  · exact Lib.BuilderAtF.put (T := 62) (e := 5) hB hb2 (bs' := bs ++ [.int .u8 c]) (by simpa using hown') (by decide)
  · exact ((hb1.alloc (by have := hb1.size; omega) _).grown hgrow (by have := hb1.size; simp; omega) (fun k hk => (hown.lt k hk).1)).setCell (p := ⟨b, 1, none⟩) hB _

set_option maxHeartbeats 2000000 in
set_option maxRecDepth 100000 in
theorem writeRune_any (B b : Nat) (bs : List Value) (r : Int) (hr0 : -2147483648 ≤ r) (hr1 : r ≤ 2147483647) (w : World) (h : IsB B b bs w) (hlen : bs.length + 4 ≤ 140737488355328) (hBw : B ≤ w.heap.size) :
    Calls Tryf.prog 43 #[.pointer (some ⟨b, 0, none⟩), .int .i32 r] w fun e w' => e = .returned (.tuple #[.int .i64 (Lib.runeCells r).length, .nilIface]) ∧ IsB B b (bs ++ Lib.runeCells r) w' ∧ Frame B b w w' := by
  have hk4 := Lib.runeCells_le r
  go_enter Tryf.func43, Tryf.ntmps43
  go_wp2_with (go_at_call 40; refine (copyCheck_any B b bs _ h).mono ?_)
  rintro e w1 ⟨rfl, h1, hb1, hk1⟩
  obtain ⟨hB, v, hbk, hown, hne⟩ := h1
  obtain ⟨ao, cap, rfl⟩ : ∃ ao cap, v = .slice ao bs.length cap := by
    rcases hown.2 with ⟨hv, h0⟩ | ⟨g, cap, cur, fz, hv, _⟩
    · exact ⟨none, 0, by rw [hv, h0]⟩
    · exact ⟨_, _, hv⟩
  have c0 : w1.cell? ⟨b, 0, none⟩ = some (.pointer (some ⟨b, 0, none⟩)) := by rw [Lib.cell_of_heap hbk]; rfl
  have c1 : w1.cell? ⟨b, 1, none⟩ = some (.slice ao bs.length cap) := by rw [Lib.cell_of_heap hbk]; rfl
  go_wp2_with (go_at_call 66; refine (Tryf.utf8_AppendRune_row B _ bs.length bs r hr0 hr1 _ hown hlen (by have := hb1.size; omega)).mono ?_)
  rintro e w2 ⟨v', rfl, hown', o, hgrow⟩
  have hlt : b < w1.heap.size := by
    rcases Nat.lt_or_ge b w1.heap.size with h' | h'
    · exact h'
    · simp [Array.getElem?_eq_none h'] at hbk
  have hb2 : w2.heap[b]? = some (.cells #[.pointer (some ⟨b, 0, none⟩), .slice ao bs.length cap] 62 (0, 0)) := by
    rw [hgrow.block b (by simp; omega) (fun e => hne e.symm), Lib.alloc_old w1 _ b hlt]
    exact hbk
  have d0 : w2.cell? ⟨b, 0, none⟩ = some (.pointer (some ⟨b, 0, none⟩)) := by rw [Lib.cell_of_heap hb2]; rfl
  have d1 : w2.cell? ⟨b, 1, none⟩ = some (.slice ao bs.length cap) := by rw [Lib.cell_of_heap hb2]; rfl
  have f1 : w2.frozen? ⟨b, 1, none⟩ = false := Lib.frozen_of_heap hb2 1
  obtain ⟨g, cap', rfl⟩ : ∃ g cap', v' = .slice (some ⟨g, 0, none⟩) (bs.length + (Lib.runeCells r).length) cap' := by
    rcases hown'.2 with ⟨_, h0⟩ | ⟨g, cap', cur, fz, hv, _⟩
    · omega
    · exact ⟨g, cap', hv⟩
  go_wp2
  go_ret2
  refine ⟨?_, Or.inr ?_, ?_, ((hk1.alloc _).grown hgrow (Lib.ownsRowF_kind (hown.alloc _))).setCell ⟨b, 1, none⟩ rfl _⟩
  · have e : ((bs.length : Int) + ((Lib.runeCells r).length : Int) - (bs.length : Int)) = ((Lib.runeCells r).length : Int) := by omega
    simp [e]
  · exact Lib.BuilderAtF.put (T := 62) (e := 5) hB hb2 (bs' := bs ++ Lib.runeCells r) (by simpa using hown') (by decide)
  · exact ((hb1.alloc (by have := hb1.size; omega) _).grown hgrow (by have := hb1.size; simp; omega) (fun k hk => (hown.lt k hk).1)).setCell (p := ⟨b, 1, none⟩) hB _
set_option maxHeartbeats 2000000 in
set_option maxRecDepth 100000 in
theorem writeString_any (B b : Nat) (bs : List Value) (s : ByteArray) (w : World) (h : IsB B b bs w) (hlen : bs.length + s.size ≤ 140737488355328) (hBw : B ≤ w.heap.size) :
    Calls Tryf.prog 27 #[.pointer (some ⟨b, 0, none⟩), .string s] w fun e w' => e = .returned (.tuple #[.int .i64 s.size, .nilIface]) ∧ IsB B b (bs ++ Lib.strCells s) w' ∧ Frame B b w w' := by
  obtain ⟨i0, hi, hz0, hz1, hz2⟩ := info_parts infoByte
  go_enter Tryf.func27, Tryf.ntmps27
  go_wp2_with (go_at_call 40; refine (copyCheck_any B b bs _ h).mono ?_)
  rintro e w1 ⟨rfl, h1, hb1, hk1⟩
  obtain ⟨hB, v, hbk, hown, hne⟩ := h1
  have c0 : w1.cell? ⟨b, 0, none⟩ = some (.pointer (some ⟨b, 0, none⟩)) := by rw [Lib.cell_of_heap hbk]; rfl
  have c1 : w1.cell? ⟨b, 1, none⟩ = some v := by rw [Lib.cell_of_heap hbk]; rfl
  go_wp2_with (at_builtin; refine Lib.wpList_append_own_stringF _ rfl _ _ 33 9 rfl B 5 i0 Tryf.underlying33 Tryf.underlying9 hi hz0 hz1 hz2 _ _ _ rfl hown s rfl ?c3 ?c4 ?c5 ?_)
  case c3 => unfold maxLen; omega
  case c4 => omega
  case c5 => have := hb1.size; omega
  intro v' w2 hown' hgrow _
  have hlt : b < w1.heap.size := by
    rcases Nat.lt_or_ge b w1.heap.size with h' | h'
    · exact h'
    · simp [Array.getElem?_eq_none h'] at hbk
  have hb2 : w2.heap[b]? = some (.cells #[.pointer (some ⟨b, 0, none⟩), v] 62 (0, 0)) := by
    rw [hgrow.block b hlt (fun e => hne e.symm)]
    exact hbk
  have d0 : w2.cell? ⟨b, 0, none⟩ = some (.pointer (some ⟨b, 0, none⟩)) := by rw [Lib.cell_of_heap hb2]; rfl
  have d1 : w2.cell? ⟨b, 1, none⟩ = some v := by rw [Lib.cell_of_heap hb2]; rfl
  have f1 : w2.frozen? ⟨b, 1, none⟩ = false := Lib.frozen_of_heap hb2 1
  obtain ⟨ao, n', cap, rfl⟩ : ∃ ao n' cap, v' = .slice ao n' cap := by
    rcases hown'.2 with ⟨hv, _⟩ | ⟨g, cap, cur, fz, hv, _⟩
    · exact ⟨_, _, _, hv⟩
    · exact ⟨_, _, _, hv⟩
  go_wp2
  go_ret2
  refine ⟨rfl, Or.inr ?_, ?_, (hk1.grown hgrow (Lib.ownsRowF_kind hown)).setCell ⟨b, 1, none⟩ rfl _⟩
  · exact Lib.BuilderAtF.put (T := 62) (e := 5) hB hb2 (bs' := bs ++ Lib.strCells s) (by simpa [Lib.strCells_length] using hown') (by decide)
  · exact (hb1.grown hgrow (by have := hb1.size; omega) (fun k hk => (hown.lt k hk).1)).setCell (p := ⟨b, 1, none⟩) hB _
end Go.Proofs.YtonifkkdokaooaaFmt

/- Frames: what a call leaves as it was. -/
namespace Go.Proofs.YtonifkkdokaooaaFmt
open Go.RowKit
set_option linter.unusedVariables false

/-- a row of bytes -/
def ByteRow (w : World) (k : Nat) : Prop := ∃ c fz, w.heap[k]? = some (.cells c 5 fz)
/-- the blocks that a write into the builder in block b (its rows from B on) may turn -/
def BX (B b : Nat) (w : World) (k : Nat) : Prop := k = b ∨ (B ≤ k ∧ ByteRow w k)
theorem Frame.kp {B b : Nat} {w w' : World} (h : Frame B b w w') : Kp (BX B b w) w w' :=
  ⟨h.1.os, h.1.tape, h.1.output, h.1.size, fun k hk hx => by
    by_cases hB : k < B
    · exact h.1.block k hB
    · have hne : some k ≠ some b := fun e => hx (.inl (by simpa using e))
      have hk' : w.heap[k]? = some (w.heap[k]) := Array.getElem?_eq_getElem hk
      rw [hk']
      exact h.2 k _ hk' hne (fun c fz e => hx (.inr ⟨by omega, c, fz, by rw [hk', e]⟩))⟩

/-- a builder is kept where its block and its row are kept -/
theorem IsB.kept {B b : Nat} {bs : List Value} {w w' : World} {X : Nat → Prop} (h : IsB B b bs w) (k : Kp X w w') (hb : ¬ X b) (hr : ∀ g, B ≤ g → ByteRow w g → ¬ X g) : IsB B b bs w' := by
  have key : ∀ p, Lib.BuilderAtF 62 5 B b p bs w → Lib.BuilderAtF 62 5 B b p bs w' := by
    rintro p ⟨hB, v, hbk, hown, hne⟩
    refine ⟨hB, v, k.heap hb hbk, ⟨hown.1, ?_⟩, hne⟩
    rcases hown.2 with h0 | ⟨g, cap, cur, fz, hv, hbg, hg, rest⟩
    · exact .inl h0
    · exact .inr ⟨g, cap, cur, fz, hv, hbg, k.heap (hr g hbg ⟨cur, fz, hg⟩) hg, rest⟩
  rcases h with h | h
  · exact .inl (key _ h)
  · exact .inr (key _ h)
theorem IsB.block {B b : Nat} {bs : List Value} {w : World} (h : IsB B b bs w) : B ≤ b ∧ b < w.heap.size ∧ ∃ c, w.heap[b]? = some (.cells c 62 (0, 0)) := by
  rcases h with h | h
  · exact ⟨h.1, h.lt, by obtain ⟨_, v, hb, _⟩ := h; exact ⟨_, hb⟩⟩
  · exact ⟨h.1, h.lt, by obtain ⟨_, v, hb, _⟩ := h; exact ⟨_, hb⟩⟩
theorem not_row {w : World} {k : Nat} {c : Array Value} {t : TypeId} {fz : Nat × Nat} (h : w.heap[k]? = some (.cells c t fz)) (ht : t ≠ 5) : ¬ ByteRow w k := by
  rintro ⟨c', fz', h'⟩
  rw [h] at h'
  simp only [Option.some.injEq, Obj.cells.injEq] at h'
  exact ht h'.2.1
end Go.Proofs.YtonifkkdokaooaaFmt

/- Walks: zzIndex, zzContains, zzCut. -/
namespace Go.Proofs.YtonifkkdokaooaaFmt
open Go.RowKit
set_option linter.unusedVariables false

/-- sub stands in l at place i -/
def atL (l sub : List UInt8) (i : Nat) : Bool := (l.drop i).take sub.length == sub
/-- the first place where sub stands in l -/
def idx (l sub : List UInt8) : Option Nat := (List.range (l.length + 1 - sub.length)).find? (atL l sub)
def idxI (l sub : List UInt8) : Int := match idx l sub with | some k => (k : Int) | none => -1

theorem extract_list (s : ByteArray) (a b : Nat) : (s.extract a b).data.toList = (s.data.toList.drop a).take (b - a) := by
  rw [ByteArray.data_extract, Array.toList_extract, List.extract_eq_take_drop]

theorem toList_data (s : ByteArray) : s.toList = s.data.toList := by rw [ByteArray.toList_eq]
theorem ret_int {k : IntKind} {a b : Int} (h : a = b) : Ending.returned (.int k a) = .returned (.int k b) := by rw [h]
theorem idx_le (l sub : List UInt8) (k : Nat) (h : idx l sub = some k) : k + sub.length ≤ l.length := by
  have := List.mem_of_find?_eq_some h
  simp at this; omega
theorem idxI_at (l sub : List UInt8) (k : Nat) (hk : k + sub.length ≤ l.length) (h : ∀ j, j < k → atL l sub j = false) (h1 : atL l sub k = true) : idxI l sub = (k : Int) := by
  have : idx l sub = some k := by
    unfold idx
    rw [List.find?_range_eq_some]
    exact ⟨h1, by simp; omega, fun j hj => by simp [h j hj]⟩
  simp [idxI, this]
theorem idxI_none (l sub : List UInt8) (k : Nat) (hk : l.length < k + sub.length) (h : ∀ j, j < k → atL l sub j = false) : idxI l sub = -1 := by
  have : idx l sub = none := by
    unfold idx
    rw [List.find?_eq_none]
    intro j hj
    simp at hj
    simp [h j (by omega)]
  simp [idxI, this]

set_option maxHeartbeats 1000000 in
theorem zzIndex_any (s sub : ByteArray) (w : World) (hs : s.size ≤ 4611686018427387904) (hu : sub.size ≤ 1000) :
    Calls Tryf.prog 71 #[.string s, .string sub] w fun e w' => e = .returned (.int .i64 (idxI s.data.toList sub.data.toList)) ∧ w = w' := by
  go_enter Tryf.func71, Tryf.ntmps71
  go_wp2
  go_loop [5] (fun i => ∃ k : Nat, k ≤ s.size + 1 ∧ i = .int .i64 k ∧ Hid (∀ j, j < k → atL s.data.toList sub.data.toList j = false)) (fun i => s.size + 1 - (intOf i).toNat)
  case atStart => exact ⟨0, Nat.zero_le _, rfl, Lib.hid (by intro j hj; omega)⟩
  case round =>
    obtain ⟨k, hk, rfl, H⟩ := hrel
    by_cases hlt : k + sub.size ≤ s.size
    · have hat : atL s.data.toList sub.data.toList k = ((s.extract k (k + sub.size)).toList == sub.toList) := by
        rw [toList_data, toList_data, extract_list, atL, Pat.size_toList, show k + sub.size - k = sub.size from by omega]
      have HAT := Lib.hid hat
      clear hat
      go_wp2
      · go_ret
        refine ⟨ret_int ?_, rfl⟩
        rw [idxI_at _ _ k (by rw [Pat.size_toList, Pat.size_toList]; omega) H.out (by rw [HAT.out]; assumption)]
      · go_round
        case rel =>
          refine ⟨k + 1, by omega, by go_num, Lib.hid ?_⟩
          intro j hj
          by_cases e : j = k
          · subst e; rw [HAT.out]; assumption
          · exact H.out j (by omega)
        case measure => simp [intOf]; omega
    · go_wp2
      go_ret
      refine ⟨ret_int ?_, rfl⟩
      rw [idxI_none _ _ k (by rw [Pat.size_toList, Pat.size_toList]; omega) H.out]

theorem zzContains_any (s sub : ByteArray) (w : World) (hs : s.size ≤ 4611686018427387904) (hu : sub.size ≤ 1000) :
    Calls Tryf.prog 51 #[.string s, .string sub] w fun e w' => e = .returned (.bool (idx s.data.toList sub.data.toList).isSome) ∧ w = w' := by
  have hz := zzIndex_any s sub
  cases hi : idx s.data.toList sub.data.toList with
  | none =>
    simp only [idxI, hi] at hz
    have HZ := Lib.hid hz
    clear hz hi
    go_enter Tryf.func51, Tryf.ntmps51
    go_wp2_with fail
    refine (HZ.out _ hs hu).mono ?_; rintro e w' ⟨rfl, rfl⟩
    go_wp2_with fail
    go_ret
    exact ⟨rfl, rfl⟩
  | some k =>
    simp only [idxI, hi] at hz
    have HZ := Lib.hid hz
    clear hz hi
    have h0 : (0 : Int) ≤ (k : Int) := by omega
    go_enter Tryf.func51, Tryf.ntmps51
    go_wp2_with fail
    refine (HZ.out _ hs hu).mono ?_; rintro e w' ⟨rfl, rfl⟩
    go_wp2_with fail
    go_ret
    exact ⟨by simp, rfl⟩

set_option maxRecDepth 100000 in
theorem zzCut_any (s sub : ByteArray) (w : World) (hs : s.size ≤ 4611686018427387904) (hu : sub.size ≤ 1000) :
    Calls Tryf.prog 68 #[.string s, .string sub] w fun e w' => (match idx s.data.toList sub.data.toList with | some k => e = .returned (.tuple #[.string (s.extract 0 k), .string (s.extract (k + sub.size) s.size), .bool true]) | none => e = .returned (.tuple #[.string s, .string ⟨#[]⟩, .bool false])) ∧ Below w.heap.size w w' := by
  have hz := zzIndex_any s sub
  cases hi : idx s.data.toList sub.data.toList with
  | none =>
    simp only [idxI, hi] at hz
    have HZ := Lib.hid hz
    clear hz hi
    go_enter Tryf.func68, Tryf.ntmps68
    go_wp2_with fail
    refine (HZ.out _ hs hu).mono ?_; rintro e w' ⟨rfl, rfl⟩
    go_wp2_with fail
    go_ret3
    exact ⟨rfl, Below.refl _ _⟩
  | some k =>
    simp only [idxI, hi] at hz
    have HZ := Lib.hid hz
    have hk := idx_le _ _ _ hi
    rw [Pat.size_toList, Pat.size_toList] at hk
    clear hz hi
    have h0 : (0 : Int) ≤ (k : Int) := by omega
    have h1 : (k : Int) ≤ (s.size : Int) := by omega
    have h2 : IntKind.i64.wrap ((k : Int) + (sub.size : Int)) = (k : Int) + (sub.size : Int) := IntWalk.i64_in _ (by omega)
    have h3 : ((k : Int) + (sub.size : Int)).toNat = k + sub.size := by omega
    have h4 : (0 : Int) ≤ (k : Int) + (sub.size : Int) := by omega
    have h5 : (k : Int) + (sub.size : Int) ≤ (s.size : Int) := by omega
    go_enter Tryf.func68, Tryf.ntmps68
    go_wp2_with fail
    refine (HZ.out _ hs hu).mono ?_; rintro e w' ⟨rfl, rfl⟩
    go_wp2_with fail
    go_quiet (fail)
    go_wp2_with fail
    go_ret3
    exact ⟨rfl, ⟨rfl, rfl, rfl, Nat.le_refl _, fun _ _ => rfl⟩⟩
end Go.Proofs.YtonifkkdokaooaaFmt

/- Closed facts of the stopped functions of fmt at this dump; the contracts of fmt.Errorf and fmt.Sprintf as they are called here. -/
namespace Go.Proofs.YtonifkkdokaooaaFmt
open Go.RowKit Go.Extern.Stop Go.Stop Go.Extern
set_option linter.unusedVariables false

@[go_sem] theorem callErrorf (args : Array Value) (w : World) : (callFunc 84 args).run Tryf.prog w = ((FmtStop.errorf #[9, 135] #[41] args).run Tryf.prog w).andThen fun v w' => .ok (.value v) w' :=
  run_callFunc_extern Tryf.func84 (by kernel_rfl) (by kernel_rfl) (by kernel_rfl) (by kernel_rfl) args w
@[go_sem] theorem callSprintf (args : Array Value) (w : World) : (callFunc 48 args).run Tryf.prog w = ((FmtStop.sprintf #[9, 135] #[9] args).run Tryf.prog w).andThen fun v w' => .ok (.value v) w' :=
  run_callFunc_extern Tryf.func48 (by kernel_rfl) (by kernel_rfl) (by kernel_rfl) (by kernel_rfl) args w
@[go_sem] theorem fmtGuard (name : String) (w : World) : (FmtStop.guard name).run Tryf.prog w = .ok () w := by kernel_rfl
/- invalid character class: %q -/
@[go_sem] theorem fmtQ (w : World) : (FmtDoors.printed ⟨#[105, 110, 118, 97, 108, 105, 100, 32, 99, 104, 97, 114, 97, 99, 116, 101, 114, 32, 99, 108, 97, 115, 115, 58, 32, 37, 113]⟩ 1).run Tryf.prog w = .ok [(0, 113, false)] w := by kernel_rfl
/- invalid range: %c-%c -/
@[go_sem] theorem fmtC : FmtStop.printed? ⟨#[105, 110, 118, 97, 108, 105, 100, 32, 114, 97, 110, 103, 101, 58, 32, 37, 99, 45, 37, 99]⟩ 2 = some [(0, 99, false), (1, 99, false)] := by kernel_rfl
def shapeS : List UInt8 := [12, 6, 0, 0, 0, 0, 0, 0, 0, 115, 116, 114, 105, 110, 103]
@[go_sem] theorem opS (name : String) (x : ByteArray) (w : World) : (FmtStop.operand name true 113 false (.iface 9 (.string x))).run Tryf.prog w = .ok (shapeS, FmtStop.pack x.data.toList) w := by kernel_rfl
@[go_sem] theorem ptrErr (w : World) : (FmtStop.ptrTo "errors.errorString").run Tryf.prog w = .ok 142 w := by kernel_rfl
@[go_sem] theorem elemErr (w : World) : (elemOf 142).run Tryf.prog w = .ok 144 w := by kernel_rfl

/-- an error of errors.New's make, in new memory -/
def NewErr (w : World) (e : Ending) (w' : World) : Prop := ∃ k, w.heap.size ≤ k ∧ k < w'.heap.size ∧ e = .returned (.iface 142 (.pointer (some ⟨k, 0, none⟩))) ∧ Below w.heap.size w w'

theorem errorf_plain1 (w : World) : Calls Tryf.prog 69 #[.string ⟨#[99, 111, 108, 108, 97, 116, 105, 110, 103, 32, 102, 101, 97, 116, 117, 114, 101, 115, 32, 110, 111, 116, 32, 97, 118, 97, 105, 108, 97, 98, 108, 101]⟩, .slice none 0 0] w (NewErr w) := by
  go_enter Tryf.func69, Tryf.ntmps69
  go_wp2
  go_ret
  exact ⟨w.heap.size, Nat.le_refl _, by simp, rfl, (Below.refl _ _).alloc (Nat.le_refl _) _⟩
theorem errorf_plain2 (w : World) : Calls Tryf.prog 69 #[.string ⟨#[91, 91, 58, 32, 119, 97, 115, 32, 110, 111, 116, 32, 109, 97, 116, 99, 104, 101, 100, 32, 119, 105, 116, 104, 32, 97, 32, 99, 108, 111, 115, 105, 110, 103, 32, 58, 93]⟩, .slice none 0 0] w (NewErr w) := by
  go_enter Tryf.func69, Tryf.ntmps69
  go_wp2
  go_ret
  exact ⟨w.heap.size, Nat.le_refl _, by simp, rfl, (Below.refl _ _).alloc (Nat.le_refl _) _⟩
theorem errorf_q (F : Interp) (b : Nat) (nm : ByteArray) (w : World) (hF : F.answers w.tape) (hc : w.cell? ⟨b, 0, none⟩ = some (.iface 9 (.string nm))) :
    Calls Tryf.prog 69 #[.string ⟨#[105, 110, 118, 97, 108, 105, 100, 32, 99, 104, 97, 114, 97, 99, 116, 101, 114, 32, 99, 108, 97, 115, 115, 58, 32, 37, 113]⟩, .slice (some ⟨b, 0, none⟩) 1 1] w (NewErr w) := by
  have hF' := answers_open hF
  go_enter Tryf.func69, Tryf.ntmps69
  go_wp2
  go_ret
  exact ⟨w.heap.size, Nat.le_refl _, by simp, rfl, ((Below.refl _ _).alloc (Nat.le_refl _) _).drew⟩
end Go.Proofs.YtonifkkdokaooaaFmt
