/- Joined by pack.py: Kp, Builder, Frame, PlainA. -/
import Derived.Test.YtjoefmnkbcoblaaFmtChecked
import Derived.WalkKit
import Derived.BigCall
import Derived.Outline
import Derived.Lib.Hide
import Derived.Test.YtjoefmnkbcoblaaFmtShelf
import Derived.Shelf.Strings.BuilderK
import Derived.Shelf.Strings.BuilderRune
/- Frames: old blocks outside a set of blocks are kept. -/
namespace Go.Proofs.YtjoefmnkbcoblaaFmt
open Go.RowKit
set_option linter.unusedVariables false

/-- every old block outside X stands as it stood -/
structure Kp (X : Nat → Prop) (w w' : World) : Prop where
  os : w'.os = w.os
  tape : w'.tape = w.tape
  output : w'.output = w.output
  size : w.heap.size ≤ w'.heap.size
  block : ∀ k, k < w.heap.size → ¬ X k → w'.heap[k]? = w.heap[k]?

theorem Kp.refl (X : Nat → Prop) (w : World) : Kp X w w := ⟨rfl, rfl, rfl, Nat.le_refl _, fun _ _ _ => rfl⟩
theorem Kp.trans {X : Nat → Prop} {a b c : World} (h : Kp X a b) (k : Kp X b c) : Kp X a c :=
  ⟨k.os.trans h.os, k.tape.trans h.tape, k.output.trans h.output, Nat.le_trans h.size k.size, fun i hi hx => (k.block i (Nat.lt_of_lt_of_le hi h.size) hx).trans (h.block i hi hx)⟩
theorem Kp.mono {X Y : Nat → Prop} {a b : World} (h : Kp X a b) (hXY : ∀ k, k < a.heap.size → X k → Y k) : Kp Y a b :=
  ⟨h.os, h.tape, h.output, h.size, fun i hi hx => h.block i hi (fun hX => hx (hXY i hi hX))⟩
theorem Kp.of_below {X : Nat → Prop} {w w' : World} (h : Below w.heap.size w w') : Kp X w w' := ⟨h.os, h.tape, h.output, h.size, fun k hk _ => h.block k hk⟩
theorem Kp.below {X : Nat → Prop} {w w' : World} {B : Nat} (h : Kp X w w') (hB : B ≤ w.heap.size) (hX : ∀ k, k < B → ¬ X k) : Below B w w' :=
  ⟨h.os, h.tape, h.output, h.size, fun k hk => h.block k (by omega) (hX k hk)⟩
theorem Kp.alloc {X : Nat → Prop} {a w : World} (h : Kp X a w) (o : Obj) : Kp X a (w.alloc o) :=
  h.trans (.of_below ((Below.refl _ _).alloc (Nat.le_refl _) _))
theorem Kp.drew {X : Nat → Prop} {a w : World} (h : Kp X a w) : Kp X a w.drew := ⟨h.os, h.tape, h.output, h.size, h.block⟩
theorem Kp.setCell {X : Nat → Prop} {a w : World} (h : Kp X a w) {p : Addr} (hp : X p.block ∨ a.heap.size ≤ p.block) (u : Value) : Kp X a (w.setCell p u) :=
  ⟨h.os, h.tape, h.output, by have := h.size; simp [World.setCell]; omega, fun k hk hx => by
    rw [Below.heap_setCell _ _ _ _ (fun e => by subst e; rcases hp with hp | hp; exact hx hp; omega)]
    exact h.block k hk hx⟩
theorem Kp.cell {X : Nat → Prop} {w w' : World} (h : Kp X w w') {b o : Nat} {v : Value} (hX : ¬ X b) (hc : w.cell? ⟨b, o, none⟩ = some v) : w'.cell? ⟨b, o, none⟩ = some v := by
  have hlt : b < w.heap.size := World.block_lt_of_cell? _ _ hc
  have := h.block b hlt hX
  unfold World.cell? at hc ⊢
  rw [this]; exact hc
theorem Kp.heap {X : Nat → Prop} {w w' : World} (h : Kp X w w') {b : Nat} {o : Obj} (hX : ¬ X b) (hc : w.heap[b]? = some o) : w'.heap[b]? = some o := by
  have hlt : b < w.heap.size := (Array.getElem?_eq_some_iff.1 hc).1
  rw [h.block b hlt hX]; exact hc

end Go.Proofs.YtjoefmnkbcoblaaFmt

/- Contracts of strings.Builder's writers at this dump (copyCheck, WriteByte, WriteRune), after the kit's shelf (Strings/BuilderK, BuilderRune), whose layings do not fit this dump's copyCheck. -/
namespace Go.Proofs.YtjoefmnkbcoblaaFmt
open Go.RowKit
set_option linter.unusedVariables false

theorem sizeBuilder : (Tryf.prog.info? 66).map (·.size) = some 2 := by kernel_rfl
theorem liesBuilder : liesAt Tryf.prog Tryf.prog.depth 66 (2 / Tryf.prog.cellsOf 66) 0 66 1 = true := by kernel_rfl
theorem infoByte : (Tryf.prog.info? 5).map (fun i => (i.zero, i.size, i.bytes)) = some (some (.int .u8 0), 1, 1) := by kernel_rfl

set_option maxHeartbeats 1000000 in
set_option maxRecDepth 100000 in
theorem copyCheck_used (b : Nat) (w : World) (h0 : w.cell? ⟨b, 0, none⟩ = some (.pointer (some ⟨b, 0, none⟩))) :
    Calls Tryf.prog 39 #[.pointer (some ⟨b, 0, none⟩)] w fun e w' => e = .returned (.tuple #[]) ∧ w' = w := by
  obtain ⟨j, hj, _⟩ := Option.map_eq_some_iff.1 sizeBuilder
  go_enter Tryf.func39, Tryf.ntmps39
  go_wp2
  rw [Lib.run_neq_ptr_same w _ Tryf.underlying64 hj]
  go_wp2
  go_end0
  exact ⟨rfl, rfl⟩

set_option maxHeartbeats 1000000 in
set_option maxRecDepth 100000 in
theorem copyCheck_fresh (b : Nat) (w : World) (h0 : w.cell? ⟨b, 0, none⟩ = some (.pointer none)) (hsh : w.shape? b = some (66, 2)) (hfz : w.frozen? ⟨b, 0, none⟩ = false) :
    Calls Tryf.prog 39 #[.pointer (some ⟨b, 0, none⟩)] w fun e w' => e = .returned (.tuple #[]) ∧ w' = w.setCell ⟨b, 0, none⟩ (.pointer (some ⟨b, 0, none⟩)) := by
  obtain ⟨j, hj, hjs⟩ := Option.map_eq_some_iff.1 sizeBuilder
  go_enter Tryf.func39, Tryf.ntmps39
  go_wp2
  rw [Lib.run_to_unsafe w ⟨b, 0, none⟩ Tryf.underlying64 Tryf.underlying75 hj (by rw [hjs]; decide) hsh (Nat.zero_lt_succ 1)]
  simp only [Result.andThen]
  rw [Oper.upon_value]
  go_wp2
  rw [run_callFunc_extern Tryf.func63 (by kernel_rfl) (by kernel_rfl) (by kernel_rfl) (e := Extern.AbiNoEscape.same) (by kernel_rfl)]
  rw [Lib.run_noEscape]
  simp only [Result.andThen]
  rw [Oper.upon_value]
  go_wp2
  rw [Lib.run_from_unsafe w ⟨b, 0, none⟩ Tryf.underlying75 Tryf.underlying64 hj hsh liesBuilder]
  simp only [Result.andThen]
  rw [Oper.upon_value]
  go_wp2
  go_end0
  exact ⟨rfl, rfl⟩

abbrev BT : TypeId := 66
abbrev U8 : TypeId := 5
/-- a builder in block b, made by the call, holding bytes -/
abbrev IsB (B b : Nat) (bs : List Value) (w : World) : Prop := Lib.IsBuilderF 66 5 B b bs w
/-- the frame: all that lay below B stands, and every block but b that is no row of bytes -/
def Frame (B b : Nat) (w w' : World) : Prop := Below B w w' ∧ Lib.OthersKept 5 (some b) w w'

theorem copyCheck_any (B b : Nat) (bs : List Value) (w : World) (h : IsB B b bs w) :
    Calls Tryf.prog 39 #[.pointer (some ⟨b, 0, none⟩)] w fun e w' => e = .returned (.tuple #[]) ∧ (Lib.BuilderAtF 66 5 B b (.pointer (some ⟨b, 0, none⟩)) bs w' ∧ Below B w w' ∧ Lib.OthersKept 5 (some b) w w') := by
  rcases h with h | h
  · refine (copyCheck_fresh b w h.cell0 h.shape h.frozen0).mono ?_
    rintro e w' ⟨rfl, rfl⟩
    exact ⟨rfl, h.used _, (Below.refl B w).setCell (p := ⟨b, 0, none⟩) h.1 _, (Lib.OthersKept.refl _ _ w).setCell ⟨b, 0, none⟩ rfl _⟩
  · refine (copyCheck_used b w h.cell0).mono ?_
    rintro e w' ⟨rfl, rfl⟩
    exact ⟨rfl, h, Below.refl B _, Lib.OthersKept.refl _ _ _⟩

set_option maxHeartbeats 2000000 in
set_option maxRecDepth 100000 in
theorem writeByte_any (B b : Nat) (bs : List Value) (c : Int) (w : World) (h : IsB B b bs w) (hlen : bs.length + 1 ≤ 140737488355328) (hBw : B ≤ w.heap.size) :
    Calls Tryf.prog 44 #[.pointer (some ⟨b, 0, none⟩), .int .u8 c] w fun e w' => e = .returned .nilIface ∧ IsB B b (bs ++ [.int .u8 c]) w' ∧ Frame B b w w' := by
  obtain ⟨i0, hi, hz0, hz1, hz2⟩ := info_parts infoByte
  go_enter Tryf.func44, Tryf.ntmps44
  go_wp2_with (go_at_call 39; refine (copyCheck_any B b bs _ h).mono ?_)
  rintro e w1 ⟨rfl, h1, hb1, hk1⟩
  obtain ⟨hB, v, hbk, hown, hne⟩ := h1
  have c0 : w1.cell? ⟨b, 0, none⟩ = some (.pointer (some ⟨b, 0, none⟩)) := by rw [Lib.cell_of_heap hbk]; rfl
  have c1 : w1.cell? ⟨b, 1, none⟩ = some v := by rw [Lib.cell_of_heap hbk]; rfl
  go_wp2_with (at_builtin; refine wpList_append_ownF _ rfl _ _ 37 rfl B 5 i0 (.int .u8 0) 1 1 Tryf.underlying37 hi hz0 hz1 hz2 rfl (by decide) _ _ _ rfl (hown.alloc _) ⟨w1.heap.size, 0, none⟩ 1 1 [.int .u8 c] rfl rfl ?c1 ?c2 ?c3 ?c4 ?c5 ?_)
  case c1 =>
    intro j u hj
    match j, hj with
    | 0, hj => simp at hj; subst hj; simp [Addr.add]
  case c2 => intro u hu; simp at hu; subst hu; rfl
  case c3 => unfold maxLen; omega
  case c4 => omega
  case c5 => have := hb1.size; simp; omega
  intro v' w2 hown' hgrow _
  have hlt : b < w1.heap.size := by
    rcases Nat.lt_or_ge b w1.heap.size with h' | h'
    · exact h'
    · simp [Array.getElem?_eq_none h'] at hbk
  have hb2 : w2.heap[b]? = some (.cells #[.pointer (some ⟨b, 0, none⟩), v] 66 (0, 0)) := by
    rw [hgrow.block b (by simp; omega) (fun e => hne e.symm), Lib.alloc_old w1 _ b hlt]
    exact hbk
  have d0 : w2.cell? ⟨b, 0, none⟩ = some (.pointer (some ⟨b, 0, none⟩)) := by rw [Lib.cell_of_heap hb2]; rfl
  have d1 : w2.cell? ⟨b, 1, none⟩ = some v := by rw [Lib.cell_of_heap hb2]; rfl
  have f1 : w2.frozen? ⟨b, 1, none⟩ = false := Lib.frozen_of_heap hb2 1
  obtain ⟨g, cap, rfl⟩ : ∃ g cap, v' = .slice (some ⟨g, 0, none⟩) (bs.length + 1) cap := by
    rcases hown'.2 with ⟨_, h0⟩ | ⟨g, cap, cur, fz, hv, _⟩
    · omega
    · exact ⟨g, cap, hv⟩
  go_wp2
  go_ret
  refine ⟨rfl, Or.inr ?_, ?_, ((hk1.alloc _).grown hgrow (Lib.ownsRowF_kind (hown.alloc _))).setCell ⟨b, 1, none⟩ rfl _⟩
  · exact Lib.BuilderAtF.put (T := 66) (e := 5) hB hb2 (bs' := bs ++ [.int .u8 c]) (by simpa using hown') (by decide)
  · exact ((hb1.alloc (by have := hb1.size; omega) _).grown hgrow (by have := hb1.size; simp; omega) (fun k hk => (hown.lt k hk).1)).setCell (p := ⟨b, 1, none⟩) hB _

set_option maxHeartbeats 2000000 in
set_option maxRecDepth 100000 in
theorem writeRune_any (B b : Nat) (bs : List Value) (r : Int) (hr0 : -2147483648 ≤ r) (hr1 : r ≤ 2147483647) (w : World) (h : IsB B b bs w) (hlen : bs.length + 4 ≤ 140737488355328) (hBw : B ≤ w.heap.size) :
    Calls Tryf.prog 42 #[.pointer (some ⟨b, 0, none⟩), .int .i32 r] w fun e w' => e = .returned (.tuple #[.int .i64 (Lib.runeCells r).length, .nilIface]) ∧ IsB B b (bs ++ Lib.runeCells r) w' ∧ Frame B b w w' := by
  have hk4 := Lib.runeCells_le r
  go_enter Tryf.func42, Tryf.ntmps42
  go_wp2_with (go_at_call 39; refine (copyCheck_any B b bs _ h).mono ?_)
  rintro e w1 ⟨rfl, h1, hb1, hk1⟩
  obtain ⟨hB, v, hbk, hown, hne⟩ := h1
  obtain ⟨ao, cap, rfl⟩ : ∃ ao cap, v = .slice ao bs.length cap := by
    rcases hown.2 with ⟨hv, h0⟩ | ⟨g, cap, cur, fz, hv, _⟩
    · exact ⟨none, 0, by rw [hv, h0]⟩
    · exact ⟨_, _, hv⟩
  have c0 : w1.cell? ⟨b, 0, none⟩ = some (.pointer (some ⟨b, 0, none⟩)) := by rw [Lib.cell_of_heap hbk]; rfl
  have c1 : w1.cell? ⟨b, 1, none⟩ = some (.slice ao bs.length cap) := by rw [Lib.cell_of_heap hbk]; rfl
  go_wp2_with (go_at_call 65; refine (Tryf.utf8_AppendRune_row B _ bs.length bs r hr0 hr1 _ hown hlen (by have := hb1.size; omega)).mono ?_)
  rintro e w2 ⟨v', rfl, hown', o, hgrow⟩
  have hlt : b < w1.heap.size := by
    rcases Nat.lt_or_ge b w1.heap.size with h' | h'
    · exact h'
    · simp [Array.getElem?_eq_none h'] at hbk
  have hb2 : w2.heap[b]? = some (.cells #[.pointer (some ⟨b, 0, none⟩), .slice ao bs.length cap] 66 (0, 0)) := by
    rw [hgrow.block b (by simp; omega) (fun e => hne e.symm), Lib.alloc_old w1 _ b hlt]
    exact hbk
  have d0 : w2.cell? ⟨b, 0, none⟩ = some (.pointer (some ⟨b, 0, none⟩)) := by rw [Lib.cell_of_heap hb2]; rfl
  have d1 : w2.cell? ⟨b, 1, none⟩ = some (.slice ao bs.length cap) := by rw [Lib.cell_of_heap hb2]; rfl
  have f1 : w2.frozen? ⟨b, 1, none⟩ = false := Lib.frozen_of_heap hb2 1
  obtain ⟨g, cap', rfl⟩ : ∃ g cap', v' = .slice (some ⟨g, 0, none⟩) (bs.length + (Lib.runeCells r).length) cap' := by
    rcases hown'.2 with ⟨_, h0⟩ | ⟨g, cap', cur, fz, hv, _⟩
    · omega
    · exact ⟨g, cap', hv⟩
  go_wp2
  go_ret2
  refine ⟨?_, Or.inr ?_, ?_, ((hk1.alloc _).grown hgrow (Lib.ownsRowF_kind (hown.alloc _))).setCell ⟨b, 1, none⟩ rfl _⟩
  · have e : ((bs.length : Int) + ((Lib.runeCells r).length : Int) - (bs.length : Int)) = ((Lib.runeCells r).length : Int) := by omega
    simp [e]
  · exact Lib.BuilderAtF.put (T := 66) (e := 5) hB hb2 (bs' := bs ++ Lib.runeCells r) (by simpa using hown') (by decide)
  · exact ((hb1.alloc (by have := hb1.size; omega) _).grown hgrow (by have := hb1.size; simp; omega) (fun k hk => (hown.lt k hk).1)).setCell (p := ⟨b, 1, none⟩) hB _
set_option maxHeartbeats 2000000 in
set_option maxRecDepth 100000 in
theorem writeString_any (B b : Nat) (bs : List Value) (s : ByteArray) (w : World) (h : IsB B b bs w) (hlen : bs.length + s.size ≤ 140737488355328) (hBw : B ≤ w.heap.size) :
    Calls Tryf.prog 26 #[.pointer (some ⟨b, 0, none⟩), .string s] w fun e w' => e = .returned (.tuple #[.int .i64 s.size, .nilIface]) ∧ IsB B b (bs ++ Lib.strCells s) w' ∧ Frame B b w w' := by
  obtain ⟨i0, hi, hz0, hz1, hz2⟩ := info_parts infoByte
  go_enter Tryf.func26, Tryf.ntmps26
  go_wp2_with (go_at_call 39; refine (copyCheck_any B b bs _ h).mono ?_)
  rintro e w1 ⟨rfl, h1, hb1, hk1⟩
  obtain ⟨hB, v, hbk, hown, hne⟩ := h1
  have c0 : w1.cell? ⟨b, 0, none⟩ = some (.pointer (some ⟨b, 0, none⟩)) := by rw [Lib.cell_of_heap hbk]; rfl
  have c1 : w1.cell? ⟨b, 1, none⟩ = some v := by rw [Lib.cell_of_heap hbk]; rfl
  go_wp2_with (at_builtin; refine Lib.wpList_append_own_stringF _ rfl _ _ 37 9 rfl B 5 i0 Tryf.underlying37 Tryf.underlying9 hi hz0 hz1 hz2 _ _ _ rfl hown s rfl ?c3 ?c4 ?c5 ?_)
  case c3 => unfold maxLen; omega
  case c4 => omega
  case c5 => have := hb1.size; omega
  intro v' w2 hown' hgrow _
  have hlt : b < w1.heap.size := by
    rcases Nat.lt_or_ge b w1.heap.size with h' | h'
    · exact h'
    · simp [Array.getElem?_eq_none h'] at hbk
  have hb2 : w2.heap[b]? = some (.cells #[.pointer (some ⟨b, 0, none⟩), v] 66 (0, 0)) := by
    rw [hgrow.block b hlt (fun e => hne e.symm)]
    exact hbk
  have d0 : w2.cell? ⟨b, 0, none⟩ = some (.pointer (some ⟨b, 0, none⟩)) := by rw [Lib.cell_of_heap hb2]; rfl
  have d1 : w2.cell? ⟨b, 1, none⟩ = some v := by rw [Lib.cell_of_heap hb2]; rfl
  have f1 : w2.frozen? ⟨b, 1, none⟩ = false := Lib.frozen_of_heap hb2 1
  obtain ⟨ao, n', cap, rfl⟩ : ∃ ao n' cap, v' = .slice ao n' cap := by
    rcases hown'.2 with ⟨hv, _⟩ | ⟨g, cap, cur, fz, hv, _⟩
    · exact ⟨_, _, _, hv⟩
    · exact ⟨_, _, _, hv⟩
  go_wp2
  go_ret2
  refine ⟨rfl, Or.inr ?_, ?_, (hk1.grown hgrow (Lib.ownsRowF_kind hown)).setCell ⟨b, 1, none⟩ rfl _⟩
  · exact Lib.BuilderAtF.put (T := 66) (e := 5) hB hb2 (bs' := bs ++ Lib.strCells s) (by simpa [Lib.strCells_length] using hown') (by decide)
  · exact (hb1.grown hgrow (by have := hb1.size; omega) (fun k hk => (hown.lt k hk).1)).setCell (p := ⟨b, 1, none⟩) hB _
end Go.Proofs.YtjoefmnkbcoblaaFmt

/- Frames: what a call leaves as it was. -/
namespace Go.Proofs.YtjoefmnkbcoblaaFmt
open Go.RowKit
set_option linter.unusedVariables false

/-- a row of bytes -/
def ByteRow (w : World) (k : Nat) : Prop := ∃ c fz, w.heap[k]? = some (.cells c 5 fz)
/-- the blocks that a write into the builder in block b (its rows from B on) may turn -/
def BX (B b : Nat) (w : World) (k : Nat) : Prop := k = b ∨ (B ≤ k ∧ ByteRow w k)
theorem Frame.kp {B b : Nat} {w w' : World} (h : Frame B b w w') : Kp (BX B b w) w w' :=
  ⟨h.1.os, h.1.tape, h.1.output, h.1.size, fun k hk hx => by
    by_cases hB : k < B
    · exact h.1.block k hB
    · have hne : some k ≠ some b := fun e => hx (.inl (by simpa using e))
      have hk' : w.heap[k]? = some (w.heap[k]) := Array.getElem?_eq_getElem hk
      rw [hk']
      exact h.2 k _ hk' hne (fun c fz e => hx (.inr ⟨by omega, c, fz, by rw [hk', e]⟩))⟩

/-- a builder is kept where its block and its row are kept -/
theorem IsB.kept {B b : Nat} {bs : List Value} {w w' : World} {X : Nat → Prop} (h : IsB B b bs w) (k : Kp X w w') (hb : ¬ X b) (hr : ∀ g, B ≤ g → ByteRow w g → ¬ X g) : IsB B b bs w' := by
  have key : ∀ p, Lib.BuilderAtF 66 5 B b p bs w → Lib.BuilderAtF 66 5 B b p bs w' := by
    rintro p ⟨hB, v, hbk, hown, hne⟩
    refine ⟨hB, v, k.heap hb hbk, ⟨hown.1, ?_⟩, hne⟩
    rcases hown.2 with h0 | ⟨g, cap, cur, fz, hv, hbg, hg, rest⟩
    · exact .inl h0
    · exact .inr ⟨g, cap, cur, fz, hv, hbg, k.heap (hr g hbg ⟨cur, fz, hg⟩) hg, rest⟩
  rcases h with h | h
  · exact .inl (key _ h)
  · exact .inr (key _ h)
theorem IsB.block {B b : Nat} {bs : List Value} {w : World} (h : IsB B b bs w) : B ≤ b ∧ b < w.heap.size ∧ ∃ c, w.heap[b]? = some (.cells c 66 (0, 0)) := by
  rcases h with h | h
  · exact ⟨h.1, h.lt, by obtain ⟨_, v, hb, _⟩ := h; exact ⟨_, hb⟩⟩
  · exact ⟨h.1, h.lt, by obtain ⟨_, v, hb, _⟩ := h; exact ⟨_, hb⟩⟩
theorem not_row {w : World} {k : Nat} {c : Array Value} {t : TypeId} {fz : Nat × Nat} (h : w.heap[k]? = some (.cells c t fz)) (ht : t ≠ 5) : ¬ ByteRow w k := by
  rintro ⟨c', fz', h'⟩
  rw [h] at h'
  simp only [Option.some.injEq, Obj.cells.injEq] at h'
  exact ht h'.2.1
end Go.Proofs.YtjoefmnkbcoblaaFmt

/- The plain functions of the texts that HasMeta, QuoteMeta and the reference compute, over lists of bytes. No program stands here. -/
namespace Go.Proofs.YtjoefmnkbcoblaaFmt.Pat

/-- a letter or a digit -/
def letterI (n : Int) : Bool := (decide (48 ≤ n) && decide (n ≤ 57)) || (decide (97 ≤ n) && decide (n ≤ 122)) || (decide (65 ≤ n) && decide (n ≤ 90))
/-- a letter, a digit or an underscore -/
def wordI (n : Int) : Bool := letterI n || n == 95
def wordL (l : List UInt8) : Bool := l.all fun c => wordI c.toNat
def asciiL (l : List UInt8) : Bool := l.all fun c => decide (c.toNat ≤ 127)

/-- HasMeta: the states are whether a bracket is open, and whether the byte stands behind a backslash -/
def metaE : Bool → Bool → List UInt8 → Bool
  | _, _, [] => false
  | o, true, _ :: r => metaE o false r
  | o, false, c :: r =>
    if c.toNat = 92 then metaE o true r
    else if c.toNat = 42 ∨ c.toNat = 63 then true
    else if c.toNat = 91 then metaE true false r
    else if c.toNat = 93 ∧ o = true then true
    else metaE o false r
def metaL (o : Bool) (l : List UInt8) : Bool := metaE o false l
theorem metaE_true (o : Bool) (r : List UInt8) : metaE o true r = metaE o false (r.drop 1) := by
  cases r <;> simp [metaE]

theorem meta_esc {c : UInt8} {o : Bool} {r : List UInt8} (h : ((c.toNat : Int) == 92) = true) : metaL o (c :: r) = metaL o (r.drop 1) := by
  have h : c.toNat = 92 := by have := beq_iff_eq.1 h; omega
  rw [metaL, metaE, if_pos h, metaE_true, metaL]
theorem ne_of {c : UInt8} {n : Nat} (h : ((c.toNat : Int) == (n : Int)) = false) : ¬ c.toNat = n := by
  have := beq_eq_false_iff_ne.1 h; omega
theorem eq_of {c : UInt8} {n : Nat} (h : ((c.toNat : Int) == (n : Int)) = true) : c.toNat = n := by
  have := beq_iff_eq.1 h; omega
theorem meta_star {c : UInt8} {o : Bool} {r : List UInt8} (h : ((c.toNat : Int) == 42) = true) : metaL o (c :: r) = true := by
  have h := eq_of (n := 42) h
  simp [metaL, metaE, h]
theorem meta_any {c : UInt8} {o : Bool} {r : List UInt8} (h : ((c.toNat : Int) == 63) = true) : metaL o (c :: r) = true := by
  have h := eq_of (n := 63) h
  simp [metaL, metaE, h]
theorem meta_open {c : UInt8} {o : Bool} {r : List UInt8} (h : ((c.toNat : Int) == 91) = true) : metaL o (c :: r) = metaL true r := by
  have h := eq_of (n := 91) h
  simp [metaL, metaE, h]
theorem meta_close {c : UInt8} {r : List UInt8} (h : ((c.toNat : Int) == 93) = true) : metaL true (c :: r) = true := by
  have h := eq_of (n := 93) h
  simp [metaL, metaE, h]
theorem meta_close0 {c : UInt8} {r : List UInt8} (h : ((c.toNat : Int) == 93) = true) : metaL false (c :: r) = metaL false r := by
  have h := eq_of (n := 93) h
  simp [metaL, metaE, h]
theorem meta_other {c : UInt8} {o : Bool} {r : List UInt8} (h1 : ((c.toNat : Int) == 92) = false) (h2 : ((c.toNat : Int) == 42) = false) (h3 : ((c.toNat : Int) == 63) = false)
    (h4 : ((c.toNat : Int) == 91) = false) (h5 : ((c.toNat : Int) == 93) = false) : metaL o (c :: r) = metaL o r := by
  have h1 := ne_of (n := 92) h1
  have h2 := ne_of (n := 42) h2
  have h3 := ne_of (n := 63) h3
  have h4 := ne_of (n := 91) h4
  have h5 := ne_of (n := 93) h5
  simp [metaL, metaE, h1, h2, h3, h4, h5]
theorem drop_cons (s : ByteArray) (k : Nat) (h : k < s.size) : s.data.toList.drop k = s[k] :: s.data.toList.drop (k + 1) := by
  rw [List.drop_eq_getElem_cons (by simpa using h)]; rfl
theorem drop_end (s : ByteArray) (k : Nat) (h : s.size ≤ k) : s.data.toList.drop k = [] := by
  rw [List.drop_eq_nil_iff]; simpa using h

theorem word_range {n : Nat} (h : wordI n = true) : (48 ≤ n ∧ n ≤ 57) ∨ (97 ≤ n ∧ n ≤ 122) ∨ (65 ≤ n ∧ n ≤ 90) ∨ n = 95 := by
  simp [wordI, letterI] at h; omega
theorem metaL_word (o : Bool) : ∀ (a r : List UInt8), wordL a = true → metaL o (a ++ r) = metaL o r
  | [], r, _ => rfl
  | c :: a, r, h => by
    have h' : wordI c.toNat = true ∧ wordL a = true := by simpa [wordL] using h
    have hc := word_range h'.1
    rw [← metaL_word o a r h'.2]
    have h1 : ¬ c.toNat = 92 := by omega
    have h2 : ¬ c.toNat = 42 := by omega
    have h3 : ¬ c.toNat = 63 := by omega
    have h4 : ¬ c.toNat = 91 := by omega
    have h5 : ¬ c.toNat = 93 := by omega
    simp [metaL, metaE, h1, h2, h3, h4, h5]
theorem metaL_word_nil (o : Bool) (a : List UInt8) (h : wordL a = true) : metaL o a = false := by
  have := metaL_word o a [] h
  simpa [metaL, metaE] using this
theorem meta_law_any (a b : List UInt8) (h : wordL a = true) : metaL false (a ++ [63] ++ b) = true := by
  rw [List.append_assoc, metaL_word _ _ _ h]; simp [metaL, metaE]
theorem meta_law_star (a b : List UInt8) (h : wordL a = true) : metaL false (a ++ [42] ++ b) = true := by
  rw [List.append_assoc, metaL_word _ _ _ h]; simp [metaL, metaE]
theorem meta_law_quoted (a b : List UInt8) (h : wordL a = true) (h2 : wordL b = true) : metaL false (a ++ [92, 42] ++ b) = false := by
  rw [List.append_assoc, metaL_word _ _ _ h]; have := metaL_word_nil false b h2; simpa [metaL, metaE] using this
theorem data_app (a b : ByteArray) : (a ++ b).data.toList = a.data.toList ++ b.data.toList := by
  simp [ByteArray.data_append]

/-- a byte that QuoteMeta quotes -/
def quotedB (c : UInt8) : Bool := c.toNat == 42 || c.toNat == 63 || c.toNat == 91 || c.toNat == 92
def quote1 (c : UInt8) : List UInt8 := if quotedB c then [92, c] else [c]
def quoteL (l : List UInt8) : List UInt8 := l.flatMap quote1
theorem quoteL_plain : ∀ l : List UInt8, (∀ c ∈ l, quotedB c = false) → quoteL l = l
  | [], _ => rfl
  | c :: r, h => by
    have h1 := h c (by simp)
    have h2 := quoteL_plain r (fun x hx => h x (by simp [hx]))
    simp only [quoteL] at h2
    simp [quoteL, quote1, h1, h2]
theorem quoteL_length : ∀ l : List UInt8, l.length ≤ (quoteL l).length ∧ (quoteL l).length ≤ 2 * l.length
  | [] => by simp [quoteL]
  | c :: r => by
    have h := quoteL_length r
    simp only [quoteL] at h
    simp only [quoteL, List.flatMap_cons, List.length_append, List.length_cons, quote1]
    split <;> simp only [List.length_cons, List.length_nil] <;> omega
theorem quoteL_append (a b : List UInt8) : quoteL (a ++ b) = quoteL a ++ quoteL b := by simp [quoteL]
theorem take_snoc (s : ByteArray) (k : Nat) (h : k < s.size) : s.data.toList.take (k + 1) = s.data.toList.take k ++ [s[k]] := by
  rw [List.take_succ_eq_append_getElem (by simpa using h)]; rfl
theorem take_all (s : ByteArray) (k : Nat) (h : s.size ≤ k) : s.data.toList.take k = s.data.toList := by
  rw [List.take_of_length_le]; simpa using h
theorem quote_snoc (l : List UInt8) (c : UInt8) : quoteL (l ++ [c]) = quoteL l ++ quote1 c := by simp [quoteL]
theorem bytes_eta (s : ByteArray) : (⟨s.data.toList.toArray⟩ : ByteArray) = s := by cases s; simp
theorem asciiL_at (s : ByteArray) (h : asciiL s.data.toList = true) (k : Nat) (hk : k < s.size) : (s[k]'hk).toNat < 128 := by
  have h1 : s[k] ∈ s.data.toList := by
    have : s[k] = s.data.toList[k]'(by simpa using hk) := by simp; rfl
    rw [this]; exact List.getElem_mem _
  have := List.all_eq_true.1 h _ h1
  simp at this; omega
theorem quoted_no {c : UInt8} (h1 : ((c.toNat : Int) == 42) = false) (h2 : ((c.toNat : Int) == 63) = false) (h3 : ((c.toNat : Int) == 91) = false) (h4 : ((c.toNat : Int) == 92) = false) : quotedB c = false := by
  have h1 := ne_of (n := 42) h1
  have h2 := ne_of (n := 63) h2
  have h3 := ne_of (n := 91) h3
  have h4 := ne_of (n := 92) h4
  simp [quotedB, h1, h2, h3, h4]
theorem quoted_42 {c : UInt8} (h : ((c.toNat : Int) == 42) = true) : quotedB c = true := by
  have h := eq_of (n := 42) h
  simp [quotedB, h]
theorem quoted_63 {c : UInt8} (h : ((c.toNat : Int) == 63) = true) : quotedB c = true := by
  have h := eq_of (n := 63) h
  simp [quotedB, h]
theorem quoted_91 {c : UInt8} (h : ((c.toNat : Int) == 91) = true) : quotedB c = true := by
  have h := eq_of (n := 91) h
  simp [quotedB, h]
theorem quoted_92 {c : UInt8} (h : ((c.toNat : Int) == 92) = true) : quotedB c = true := by
  have h := eq_of (n := 92) h
  simp [quotedB, h]
theorem quoted_cases (c : UInt8) : (((c.toNat : Int) == 42) = false ∧ ((c.toNat : Int) == 63) = false ∧ ((c.toNat : Int) == 91) = false ∧ ((c.toNat : Int) == 92) = false) ∨ (((c.toNat : Int) == 42) = true) ∨ (((c.toNat : Int) == 42) = false ∧ ((c.toNat : Int) == 63) = true) ∨ (((c.toNat : Int) == 42) = false ∧ ((c.toNat : Int) == 63) = false ∧ ((c.toNat : Int) == 91) = true) ∨ (((c.toNat : Int) == 42) = false ∧ ((c.toNat : Int) == 63) = false ∧ ((c.toNat : Int) == 91) = false ∧ ((c.toNat : Int) == 92) = true) := by
  cases ((c.toNat : Int) == 42) <;> cases ((c.toNat : Int) == 63) <;> cases ((c.toNat : Int) == 91) <;> cases ((c.toNat : Int) == 92) <;> simp
/-- Unquoted: the state is whether the byte stands behind a backslash -/
def unqE : Bool → List UInt8 → Option (List UInt8)
  | false, [] => some []
  | true, [] => none
  | true, d :: r => (unqE false r).map (d :: ·)
  | false, c :: r =>
    if c.toNat = 42 ∨ c.toNat = 63 ∨ c.toNat = 91 then none
    else if c.toNat = 92 then unqE true r
    else (unqE false r).map (c :: ·)
def unqT (l : List UInt8) : List UInt8 := (unqE false l).getD []
def unqB (l : List UInt8) : Bool := (unqE false l).isSome
theorem unq_bad {c : UInt8} {r : List UInt8} (h : c.toNat = 42 ∨ c.toNat = 63 ∨ c.toNat = 91) : unqE false (c :: r) = none := by simp [unqE, h]
theorem unq_bad42 {c : UInt8} {r : List UInt8} (h : ((c.toNat : Int) == 42) = true) : unqE false (c :: r) = none := unq_bad (.inl (eq_of (n := 42) h))
theorem unq_bad63 {c : UInt8} {r : List UInt8} (h : ((c.toNat : Int) == 63) = true) : unqE false (c :: r) = none := unq_bad (.inr (.inl (eq_of (n := 63) h)))
theorem unq_bad91 {c : UInt8} {r : List UInt8} (h : ((c.toNat : Int) == 91) = true) : unqE false (c :: r) = none := unq_bad (.inr (.inr (eq_of (n := 91) h)))
theorem unq_esc {c d : UInt8} {r : List UInt8} (h : ((c.toNat : Int) == 92) = true) : unqE false (c :: d :: r) = (unqE false r).map (d :: ·) := by
  have h := eq_of (n := 92) h
  simp [unqE, h]
theorem unq_esc_end {c : UInt8} (h : ((c.toNat : Int) == 92) = true) : unqE false [c] = none := by
  have h := eq_of (n := 92) h
  simp [unqE, h]
theorem unq_other {c : UInt8} {r : List UInt8} (h1 : ((c.toNat : Int) == 42) = false) (h2 : ((c.toNat : Int) == 63) = false) (h3 : ((c.toNat : Int) == 91) = false) (h4 : ((c.toNat : Int) == 92) = false) : unqE false (c :: r) = (unqE false r).map (c :: ·) := by
  have h1 := ne_of (n := 42) h1
  have h2 := ne_of (n := 63) h2
  have h3 := ne_of (n := 91) h3
  have h4 := ne_of (n := 92) h4
  simp [unqE, h1, h2, h3, h4]
theorem map_step (o : Option (List UInt8)) (a : List UInt8) (c : UInt8) : (o.map (c :: ·)).map (a ++ ·) = o.map ((a ++ [c]) ++ ·) := by
  cases o <;> simp
theorem extract_one (s : ByteArray) (k : Nat) (h : k < s.size) : (s.extract k (k + 1)).data.toList = [s[k]] := by
  have h' : k < s.data.size := h
  rw [ByteArray.data_extract, Array.toList_extract, List.extract_eq_take_drop]
  rw [show k + 1 - k = 1 from by omega, List.drop_eq_getElem_cons (by simpa using h')]
  simp; rfl
theorem extract_one_size (s : ByteArray) (k : Nat) (h : k < s.size) : (s.extract k (k + 1)).size = 1 := by
  rw [ByteArray.size_extract]; omega
theorem unq_quote : ∀ l : List UInt8, unqE false (quoteL l) = some l
  | [] => rfl
  | c :: r => by
    have h := unq_quote r
    simp only [quoteL] at h
    rcases quoted_cases c with ⟨k1, k2, k3, k4⟩ | k1 | ⟨k1, k2⟩ | ⟨k1, k2, k3⟩ | ⟨k1, k2, k3, k4⟩
    · simp only [quoteL, List.flatMap_cons, quote1, quoted_no k1 k2 k3 k4]
      simp [unq_other k1 k2 k3 k4, h]
    · simp only [quoteL, List.flatMap_cons, quote1, quoted_42 k1]
      simp [unqE, h]
    · simp only [quoteL, List.flatMap_cons, quote1, quoted_63 k2]
      simp [unqE, h]
    · simp only [quoteL, List.flatMap_cons, quote1, quoted_91 k3]
      simp [unqE, h]
    · simp only [quoteL, List.flatMap_cons, quote1, quoted_92 k4]
      simp [unqE, h]
theorem meta_quote : ∀ l : List UInt8, metaL false (quoteL l) = false
  | [] => rfl
  | c :: r => by
    have h := meta_quote r
    simp only [quoteL, metaL] at h
    rcases quoted_cases c with ⟨k1, k2, k3, k4⟩ | k1 | ⟨k1, k2⟩ | ⟨k1, k2, k3⟩ | ⟨k1, k2, k3, k4⟩
    · have h1 := ne_of (n := 42) k1
      have h2 := ne_of (n := 63) k2
      have h3 := ne_of (n := 91) k3
      have h4 := ne_of (n := 92) k4
      simp only [quoteL, List.flatMap_cons, quote1, quoted_no k1 k2 k3 k4]
      simp [metaL, metaE, h1, h2, h3, h4, h]
    · simp only [quoteL, List.flatMap_cons, quote1, quoted_42 k1]
      simp [metaL, metaE, h]
    · simp only [quoteL, List.flatMap_cons, quote1, quoted_63 k2]
      simp [metaL, metaE, h]
    · simp only [quoteL, List.flatMap_cons, quote1, quoted_91 k3]
      simp [metaL, metaE, h]
    · simp only [quoteL, List.flatMap_cons, quote1, quoted_92 k4]
      simp [metaL, metaE, h]
theorem ascii_quote : ∀ l : List UInt8, asciiL l = true → asciiL (quoteL l) = true
  | [], _ => rfl
  | c :: r, h => by
    have h' : c.toNat ≤ 127 ∧ asciiL r = true := by simpa [asciiL] using h
    have h2 := ascii_quote r h'.2
    simp only [quoteL, asciiL] at h2
    simp only [quoteL, List.flatMap_cons, asciiL, List.all_append, h2, quote1]
    split <;> simp [h'.1]
theorem word_not_quoted {c : UInt8} (h : wordI c.toNat = true) : quotedB c = false := by
  have := word_range h
  simp [quotedB]; omega
theorem word_quote (l : List UInt8) (h : wordL l = true) : quoteL l = l :=
  quoteL_plain l fun c hc => word_not_quoted (List.all_eq_true.1 h c hc)
theorem word_ascii (l : List UInt8) (h : wordL l = true) : asciiL l = true :=
  List.all_eq_true.2 fun c hc => by
    have := word_range (n := c.toNat) (List.all_eq_true.1 h c hc)
    simp; omega
theorem size_mk (l : List UInt8) : (ByteArray.mk l.toArray).size = l.length := by simp [ByteArray.size]
theorem data_mk (l : List UInt8) : (ByteArray.mk l.toArray).data.toList = l := by simp
theorem size_toList (s : ByteArray) : s.data.toList.length = s.size := by rw [Array.length_toList]; rfl
theorem mk_app (a b : List UInt8) : (ByteArray.mk (a ++ b).toArray) = ByteArray.mk a.toArray ++ ByteArray.mk b.toArray := by
  apply ByteArray.ext; simp [ByteArray.data_append]
theorem size_mid (a b : ByteArray) (l : Array UInt8) (h : a.size ≤ 2147483647) (h2 : b.size ≤ 2147483647) (h3 : l.size ≤ 2) : (a ++ ⟨l⟩ ++ b).size < 9223372036854775806 := by
  have h4 : (ByteArray.mk l).size ≤ 2 := h3
  simp only [ByteArray.size_append]
  omega
end Go.Proofs.YtjoefmnkbcoblaaFmt.Pat
