/- Joined by pack.py: Kp, Builder, Frame, PlainA, Search, FmtF. -/
import Derived.Test.YtpfgmiocdgfniaaGreatFmtChecked
import Derived.WalkKit
import Derived.BigCall
import Derived.Outline
import Derived.Lib.Hide
import Derived.Test.YtpfgmiocdgfniaaGreatFmtShelf
import Derived.Shelf.Strings.BuilderK
import Derived.Shelf.Strings.BuilderRune
import Derived.WalkLawsBesides
import Derived.WalkSpells
import Derived.Deep.QuietTactic
import Derived.BigQuiet
import Derived.IntWalk
import Derived.Stop.CallBack
import Derived.Stop.IfaceNil
import GoSem.ClaimData
set_option linter.unusedVariables false
set_option maxHeartbeats 8000000
set_option maxRecDepth 1000000
namespace Go.Proofs.YtpfgmiocdgfniaaGreatFmt
open Go.RowKit
structure Kp (X : Nat → Prop) (w w' : World) : Prop where
  os : w'.os = w.os
  tape : w'.tape = w.tape
  output : w'.output = w.output
  size : w.heap.size ≤ w'.heap.size
  block : ∀ k, k < w.heap.size → ¬ X k → w'.heap[k]? = w.heap[k]?
theorem Kp.refl (X : Nat → Prop) (w : World) : Kp X w w := ⟨rfl, rfl, rfl, Nat.le_refl _, fun _ _ _ => rfl⟩
theorem Kp.trans {X : Nat → Prop} {a b c : World} (h : Kp X a b) (k : Kp X b c) : Kp X a c :=
  ⟨k.os.trans h.os, k.tape.trans h.tape, k.output.trans h.output, Nat.le_trans h.size k.size, fun i hi hx => (k.block i (Nat.lt_of_lt_of_le hi h.size) hx).trans (h.block i hi hx)⟩
theorem Kp.mono {X Y : Nat → Prop} {a b : World} (h : Kp X a b) (hXY : ∀ k, k < a.heap.size → X k → Y k) : Kp Y a b :=
  ⟨h.os, h.tape, h.output, h.size, fun i hi hx => h.block i hi (fun hX => hx (hXY i hi hX))⟩
theorem Kp.of_below {X : Nat → Prop} {w w' : World} (h : Below w.heap.size w w') : Kp X w w' := ⟨h.os, h.tape, h.output, h.size, fun k hk _ => h.block k hk⟩
theorem Kp.below {X : Nat → Prop} {w w' : World} {B : Nat} (h : Kp X w w') (hB : B ≤ w.heap.size) (hX : ∀ k, k < B → ¬ X k) : Below B w w' :=
  ⟨h.os, h.tape, h.output, h.size, fun k hk => h.block k (by omega) (hX k hk)⟩
theorem Kp.alloc {X : Nat → Prop} {a w : World} (h : Kp X a w) (o : Obj) : Kp X a (w.alloc o) :=
  h.trans (.of_below ((Below.refl _ _).alloc (Nat.le_refl _) _))
theorem Kp.drew {X : Nat → Prop} {a w : World} (h : Kp X a w) : Kp X a w.drew := ⟨h.os, h.tape, h.output, h.size, h.block⟩
theorem Kp.setCell {X : Nat → Prop} {a w : World} (h : Kp X a w) {p : Addr} (hp : X p.block ∨ a.heap.size ≤ p.block) (u : Value) : Kp X a (w.setCell p u) :=
  ⟨h.os, h.tape, h.output, by have := h.size; simp [World.setCell]; omega, fun k hk hx => by
    rw [Below.heap_setCell _ _ _ _ (fun e => by subst e; rcases hp with hp | hp; exact hx hp; omega)]
    exact h.block k hk hx⟩
theorem Kp.cell {X : Nat → Prop} {w w' : World} (h : Kp X w w') {b o : Nat} {v : Value} (hX : ¬ X b) (hc : w.cell? ⟨b, o, none⟩ = some v) : w'.cell? ⟨b, o, none⟩ = some v := by
  have hlt : b < w.heap.size := World.block_lt_of_cell? _ _ hc
  have := h.block b hlt hX
  unfold World.cell? at hc ⊢
  rw [this]; exact hc
theorem Kp.heap {X : Nat → Prop} {w w' : World} (h : Kp X w w') {b : Nat} {o : Obj} (hX : ¬ X b) (hc : w.heap[b]? = some o) : w'.heap[b]? = some o := by
  have hlt : b < w.heap.size := (Array.getElem?_eq_some_iff.1 hc).1
  rw [h.block b hlt hX]; exact hc
end Go.Proofs.YtpfgmiocdgfniaaGreatFmt

namespace Go.Proofs.YtpfgmiocdgfniaaGreatFmt
open Go.RowKit
theorem sizeBuilder : (Tryz.prog.info? 76).map (·.size) = some 2 := by kernel_rfl
theorem liesBuilder : liesAt Tryz.prog Tryz.prog.depth 76 (2 / Tryz.prog.cellsOf 76) 0 76 1 = true := by kernel_rfl
theorem infoByte : (Tryz.prog.info? 5).map (fun i => (i.zero, i.size, i.bytes)) = some (some (.int .u8 0), 1, 1) := by kernel_rfl
theorem copyCheck_used (b : Nat) (w : World) (h0 : w.cell? ⟨b, 0, none⟩ = some (.pointer (some ⟨b, 0, none⟩))) :
    Calls Tryz.prog 38 #[.pointer (some ⟨b, 0, none⟩)] w fun e w' => e = .returned (.tuple #[]) ∧ w' = w := by
  obtain ⟨j, hj, _⟩ := Option.map_eq_some_iff.1 sizeBuilder
  go_enter Tryz.func38, Tryz.ntmps38
  go_wp2
  rw [Lib.run_neq_ptr_same w _ Tryz.underlying74 hj]
  go_wp2
  go_end0
  exact ⟨rfl, rfl⟩
theorem copyCheck_fresh (b : Nat) (w : World) (h0 : w.cell? ⟨b, 0, none⟩ = some (.pointer none)) (hsh : w.shape? b = some (76, 2)) (hfz : w.frozen? ⟨b, 0, none⟩ = false) :
    Calls Tryz.prog 38 #[.pointer (some ⟨b, 0, none⟩)] w fun e w' => e = .returned (.tuple #[]) ∧ w' = w.setCell ⟨b, 0, none⟩ (.pointer (some ⟨b, 0, none⟩)) := by
  obtain ⟨j, hj, hjs⟩ := Option.map_eq_some_iff.1 sizeBuilder
  go_enter Tryz.func38, Tryz.ntmps38
  go_wp2
  rw [Lib.run_to_unsafe w ⟨b, 0, none⟩ Tryz.underlying74 Tryz.underlying85 hj (by rw [hjs]; decide) hsh (Nat.zero_lt_succ 1)]
  simp only [Result.andThen]
  rw [Oper.upon_value]
  go_wp2
  rw [run_callFunc_extern Tryz.func61 (by kernel_rfl) (by kernel_rfl) (by kernel_rfl) (e := Extern.AbiNoEscape.same) (by kernel_rfl)]
  rw [Lib.run_noEscape]
  simp only [Result.andThen]
  rw [Oper.upon_value]
  go_wp2
  rw [Lib.run_from_unsafe w ⟨b, 0, none⟩ Tryz.underlying85 Tryz.underlying74 hj hsh liesBuilder]
  simp only [Result.andThen]
  rw [Oper.upon_value]
  go_wp2
  go_end0
  exact ⟨rfl, rfl⟩
abbrev BT : TypeId := 76
abbrev U8 : TypeId := 5
abbrev IsB (B b : Nat) (bs : List Value) (w : World) : Prop := Lib.IsBuilderF 76 5 B b bs w
def Frame (B b : Nat) (w w' : World) : Prop := Below B w w' ∧ Lib.OthersKept 5 (some b) w w'
theorem copyCheck_any (B b : Nat) (bs : List Value) (w : World) (h : IsB B b bs w) :
    Calls Tryz.prog 38 #[.pointer (some ⟨b, 0, none⟩)] w fun e w' => e = .returned (.tuple #[]) ∧ (Lib.BuilderAtF 76 5 B b (.pointer (some ⟨b, 0, none⟩)) bs w' ∧ Below B w w' ∧ Lib.OthersKept 5 (some b) w w') := by
  rcases h with h | h
  · refine (copyCheck_fresh b w h.cell0 h.shape h.frozen0).mono ?_
    rintro e w' ⟨rfl, rfl⟩
    exact ⟨rfl, h.used _, (Below.refl B w).setCell (p := ⟨b, 0, none⟩) h.1 _, (Lib.OthersKept.refl _ _ w).setCell ⟨b, 0, none⟩ rfl _⟩
  · refine (copyCheck_used b w h.cell0).mono ?_
    rintro e w' ⟨rfl, rfl⟩
    exact ⟨rfl, h, Below.refl B _, Lib.OthersKept.refl _ _ _⟩
theorem writeByte_any (B b : Nat) (bs : List Value) (c : Int) (w : World) (h : IsB B b bs w) (hlen : bs.length + 1 ≤ 140737488355328) (hBw : B ≤ w.heap.size) :
    Calls Tryz.prog 29 #[.pointer (some ⟨b, 0, none⟩), .int .u8 c] w fun e w' => e = .returned .nilIface ∧ IsB B b (bs ++ [.int .u8 c]) w' ∧ Frame B b w w' := by
  obtain ⟨i0, hi, hz0, hz1, hz2⟩ := info_parts infoByte
  go_enter Tryz.func29, Tryz.ntmps29
  go_wp2_with (go_at_call 38; refine (copyCheck_any B b bs _ h).mono ?_)
  rintro e w1 ⟨rfl, h1, hb1, hk1⟩
  obtain ⟨hB, v, hbk, hown, hne⟩ := h1
  have c0 : w1.cell? ⟨b, 0, none⟩ = some (.pointer (some ⟨b, 0, none⟩)) := by rw [Lib.cell_of_heap hbk]; rfl
  have c1 : w1.cell? ⟨b, 1, none⟩ = some v := by rw [Lib.cell_of_heap hbk]; rfl
  go_wp2_with (at_builtin; refine wpList_append_ownF _ rfl _ _ 45 rfl B 5 i0 (.int .u8 0) 1 1 Tryz.underlying45 hi hz0 hz1 hz2 rfl (by decide) _ _ _ rfl (hown.alloc _) ⟨w1.heap.size, 0, none⟩ 1 1 [.int .u8 c] rfl rfl ?c1 ?c2 ?c3 ?c4 ?c5 ?_)
  case c1 =>
    intro j u hj
    match j, hj with
    | 0, hj => simp at hj; subst hj; simp [Addr.add]
  case c2 => intro u hu; simp at hu; subst hu; rfl
  case c3 => unfold maxLen; omega
  case c4 => omega
  case c5 => have := hb1.size; simp; omega
  intro v' w2 hown' hgrow _
  have hlt : b < w1.heap.size := by
    rcases Nat.lt_or_ge b w1.heap.size with h' | h'
    · exact h'
    · simp [Array.getElem?_eq_none h'] at hbk
  have hb2 : w2.heap[b]? = some (.cells #[.pointer (some ⟨b, 0, none⟩), v] 76 (0, 0)) := by
    rw [hgrow.block b (by simp; omega) (fun e => hne e.symm), Lib.alloc_old w1 _ b hlt]
    exact hbk
  have d0 : w2.cell? ⟨b, 0, none⟩ = some (.pointer (some ⟨b, 0, none⟩)) := by rw [Lib.cell_of_heap hb2]; rfl
  have d1 : w2.cell? ⟨b, 1, none⟩ = some v := by rw [Lib.cell_of_heap hb2]; rfl
  have f1 : w2.frozen? ⟨b, 1, none⟩ = false := Lib.frozen_of_heap hb2 1
  obtain ⟨g, cap, rfl⟩ : ∃ g cap, v' = .slice (some ⟨g, 0, none⟩) (bs.length + 1) cap := by
    rcases hown'.2 with ⟨_, h0⟩ | ⟨g, cap, cur, fz, hv, _⟩
    · omega
    · exact ⟨g, cap, hv⟩
  go_wp2
  go_ret
  refine ⟨rfl, Or.inr ?_, ?_, ((hk1.alloc _).grown hgrow (Lib.ownsRowF_kind (hown.alloc _))).setCell ⟨b, 1, none⟩ rfl _⟩
  · exact Lib.BuilderAtF.put (T := 76) (e := 5) hB hb2 (bs' := bs ++ [.int .u8 c]) (by simpa using hown') (by decide)
  · exact ((hb1.alloc (by have := hb1.size; omega) _).grown hgrow (by have := hb1.size; simp; omega) (fun k hk => (hown.lt k hk).1)).setCell (p := ⟨b, 1, none⟩) hB _
theorem writeRune_any (B b : Nat) (bs : List Value) (r : Int) (hr0 : -2147483648 ≤ r) (hr1 : r ≤ 2147483647) (w : World) (h : IsB B b bs w) (hlen : bs.length + 4 ≤ 140737488355328) (hBw : B ≤ w.heap.size) :
    Calls Tryz.prog 30 #[.pointer (some ⟨b, 0, none⟩), .int .i32 r] w fun e w' => e = .returned (.tuple #[.int .i64 (Lib.runeCells r).length, .nilIface]) ∧ IsB B b (bs ++ Lib.runeCells r) w' ∧ Frame B b w w' := by
  have hk4 := Lib.runeCells_le r
  go_enter Tryz.func30, Tryz.ntmps30
  go_wp2_with (go_at_call 38; refine (copyCheck_any B b bs _ h).mono ?_)
  rintro e w1 ⟨rfl, h1, hb1, hk1⟩
  obtain ⟨hB, v, hbk, hown, hne⟩ := h1
  obtain ⟨ao, cap, rfl⟩ : ∃ ao cap, v = .slice ao bs.length cap := by
    rcases hown.2 with ⟨hv, h0⟩ | ⟨g, cap, cur, fz, hv, _⟩
    · exact ⟨none, 0, by rw [hv, h0]⟩
    · exact ⟨_, _, hv⟩
  have c0 : w1.cell? ⟨b, 0, none⟩ = some (.pointer (some ⟨b, 0, none⟩)) := by rw [Lib.cell_of_heap hbk]; rfl
  have c1 : w1.cell? ⟨b, 1, none⟩ = some (.slice ao bs.length cap) := by rw [Lib.cell_of_heap hbk]; rfl
  go_wp2_with (go_at_call 51; refine (Tryz.utf8_AppendRune_row B _ bs.length bs r hr0 hr1 _ hown hlen (by have := hb1.size; omega)).mono ?_)
  rintro e w2 ⟨v', rfl, hown', o, hgrow⟩
  have hlt : b < w1.heap.size := by
    rcases Nat.lt_or_ge b w1.heap.size with h' | h'
    · exact h'
    · simp [Array.getElem?_eq_none h'] at hbk
  have hb2 : w2.heap[b]? = some (.cells #[.pointer (some ⟨b, 0, none⟩), .slice ao bs.length cap] 76 (0, 0)) := by
    rw [hgrow.block b (by simp; omega) (fun e => hne e.symm), Lib.alloc_old w1 _ b hlt]
    exact hbk
  have d0 : w2.cell? ⟨b, 0, none⟩ = some (.pointer (some ⟨b, 0, none⟩)) := by rw [Lib.cell_of_heap hb2]; rfl
  have d1 : w2.cell? ⟨b, 1, none⟩ = some (.slice ao bs.length cap) := by rw [Lib.cell_of_heap hb2]; rfl
  have f1 : w2.frozen? ⟨b, 1, none⟩ = false := Lib.frozen_of_heap hb2 1
  obtain ⟨g, cap', rfl⟩ : ∃ g cap', v' = .slice (some ⟨g, 0, none⟩) (bs.length + (Lib.runeCells r).length) cap' := by
    rcases hown'.2 with ⟨_, h0⟩ | ⟨g, cap', cur, fz, hv, _⟩
    · omega
    · exact ⟨g, cap', hv⟩
  go_wp2
  go_ret2
  refine ⟨?_, Or.inr ?_, ?_, ((hk1.alloc _).grown hgrow (Lib.ownsRowF_kind (hown.alloc _))).setCell ⟨b, 1, none⟩ rfl _⟩
  · have e : ((bs.length : Int) + ((Lib.runeCells r).length : Int) - (bs.length : Int)) = ((Lib.runeCells r).length : Int) := by omega
    simp [e]
  · exact Lib.BuilderAtF.put (T := 76) (e := 5) hB hb2 (bs' := bs ++ Lib.runeCells r) (by simpa using hown') (by decide)
  · exact ((hb1.alloc (by have := hb1.size; omega) _).grown hgrow (by have := hb1.size; simp; omega) (fun k hk => (hown.lt k hk).1)).setCell (p := ⟨b, 1, none⟩) hB _
theorem writeString_any (B b : Nat) (bs : List Value) (s : ByteArray) (w : World) (h : IsB B b bs w) (hlen : bs.length + s.size ≤ 140737488355328) (hBw : B ≤ w.heap.size) :
    Calls Tryz.prog 22 #[.pointer (some ⟨b, 0, none⟩), .string s] w fun e w' => e = .returned (.tuple #[.int .i64 s.size, .nilIface]) ∧ IsB B b (bs ++ Lib.strCells s) w' ∧ Frame B b w w' := by
  obtain ⟨i0, hi, hz0, hz1, hz2⟩ := info_parts infoByte
  go_enter Tryz.func22, Tryz.ntmps22
  go_wp2_with (go_at_call 38; refine (copyCheck_any B b bs _ h).mono ?_)
  rintro e w1 ⟨rfl, h1, hb1, hk1⟩
  obtain ⟨hB, v, hbk, hown, hne⟩ := h1
  have c0 : w1.cell? ⟨b, 0, none⟩ = some (.pointer (some ⟨b, 0, none⟩)) := by rw [Lib.cell_of_heap hbk]; rfl
  have c1 : w1.cell? ⟨b, 1, none⟩ = some v := by rw [Lib.cell_of_heap hbk]; rfl
  go_wp2_with (at_builtin; refine Lib.wpList_append_own_stringF _ rfl _ _ 45 9 rfl B 5 i0 Tryz.underlying45 Tryz.underlying9 hi hz0 hz1 hz2 _ _ _ rfl hown s rfl ?c3 ?c4 ?c5 ?_)
  case c3 => unfold maxLen; omega
  case c4 => omega
  case c5 => have := hb1.size; omega
  intro v' w2 hown' hgrow _
  have hlt : b < w1.heap.size := by
    rcases Nat.lt_or_ge b w1.heap.size with h' | h'
    · exact h'
    · simp [Array.getElem?_eq_none h'] at hbk
  have hb2 : w2.heap[b]? = some (.cells #[.pointer (some ⟨b, 0, none⟩), v] 76 (0, 0)) := by
    rw [hgrow.block b hlt (fun e => hne e.symm)]
    exact hbk
  have d0 : w2.cell? ⟨b, 0, none⟩ = some (.pointer (some ⟨b, 0, none⟩)) := by rw [Lib.cell_of_heap hb2]; rfl
  have d1 : w2.cell? ⟨b, 1, none⟩ = some v := by rw [Lib.cell_of_heap hb2]; rfl
  have f1 : w2.frozen? ⟨b, 1, none⟩ = false := Lib.frozen_of_heap hb2 1
  obtain ⟨ao, n', cap, rfl⟩ : ∃ ao n' cap, v' = .slice ao n' cap := by
    rcases hown'.2 with ⟨hv, _⟩ | ⟨g, cap, cur, fz, hv, _⟩
    · exact ⟨_, _, _, hv⟩
    · exact ⟨_, _, _, hv⟩
  go_wp2
  go_ret2
  refine ⟨rfl, Or.inr ?_, ?_, (hk1.grown hgrow (Lib.ownsRowF_kind hown)).setCell ⟨b, 1, none⟩ rfl _⟩
  · exact Lib.BuilderAtF.put (T := 76) (e := 5) hB hb2 (bs' := bs ++ Lib.strCells s) (by simpa [Lib.strCells_length] using hown') (by decide)
  · exact (hb1.grown hgrow (by have := hb1.size; omega) (fun k hk => (hown.lt k hk).1)).setCell (p := ⟨b, 1, none⟩) hB _
end Go.Proofs.YtpfgmiocdgfniaaGreatFmt

namespace Go.Proofs.YtpfgmiocdgfniaaGreatFmt
open Go.RowKit
def ByteRow (w : World) (k : Nat) : Prop := ∃ c fz, w.heap[k]? = some (.cells c 5 fz)
def BX (B b : Nat) (w : World) (k : Nat) : Prop := k = b ∨ (B ≤ k ∧ ByteRow w k)
theorem Frame.kp {B b : Nat} {w w' : World} (h : Frame B b w w') : Kp (BX B b w) w w' :=
  ⟨h.1.os, h.1.tape, h.1.output, h.1.size, fun k hk hx => by
    by_cases hB : k < B
    · exact h.1.block k hB
    · have hne : some k ≠ some b := fun e => hx (.inl (by simpa using e))
      have hk' : w.heap[k]? = some (w.heap[k]) := Array.getElem?_eq_getElem hk
      rw [hk']
      exact h.2 k _ hk' hne (fun c fz e => hx (.inr ⟨by omega, c, fz, by rw [hk', e]⟩))⟩
theorem IsB.kept {B b : Nat} {bs : List Value} {w w' : World} {X : Nat → Prop} (h : IsB B b bs w) (k : Kp X w w') (hb : ¬ X b) (hr : ∀ g, B ≤ g → ByteRow w g → ¬ X g) : IsB B b bs w' := by
  have key : ∀ p, Lib.BuilderAtF 76 5 B b p bs w → Lib.BuilderAtF 76 5 B b p bs w' := by
    rintro p ⟨hB, v, hbk, hown, hne⟩
    refine ⟨hB, v, k.heap hb hbk, ⟨hown.1, ?_⟩, hne⟩
    rcases hown.2 with h0 | ⟨g, cap, cur, fz, hv, hbg, hg, rest⟩
    · exact .inl h0
    · exact .inr ⟨g, cap, cur, fz, hv, hbg, k.heap (hr g hbg ⟨cur, fz, hg⟩) hg, rest⟩
  rcases h with h | h
  · exact .inl (key _ h)
  · exact .inr (key _ h)
theorem IsB.block {B b : Nat} {bs : List Value} {w : World} (h : IsB B b bs w) : B ≤ b ∧ b < w.heap.size ∧ ∃ c, w.heap[b]? = some (.cells c 76 (0, 0)) := by
  rcases h with h | h
  · exact ⟨h.1, h.lt, by obtain ⟨_, v, hb, _⟩ := h; exact ⟨_, hb⟩⟩
  · exact ⟨h.1, h.lt, by obtain ⟨_, v, hb, _⟩ := h; exact ⟨_, hb⟩⟩
theorem not_row {w : World} {k : Nat} {c : Array Value} {t : TypeId} {fz : Nat × Nat} (h : w.heap[k]? = some (.cells c t fz)) (ht : t ≠ 5) : ¬ ByteRow w k := by
  rintro ⟨c', fz', h'⟩
  rw [h] at h'
  simp only [Option.some.injEq, Obj.cells.injEq] at h'
  exact ht h'.2.1
end Go.Proofs.YtpfgmiocdgfniaaGreatFmt

namespace Go.Proofs.YtpfgmiocdgfniaaGreatFmt.Pat
def letterI (n : Int) : Bool := (decide (48 ≤ n) && decide (n ≤ 57)) || (decide (97 ≤ n) && decide (n ≤ 122)) || (decide (65 ≤ n) && decide (n ≤ 90))
def wordI (n : Int) : Bool := letterI n || n == 95
def wordL (l : List UInt8) : Bool := l.all fun c => wordI c.toNat
def asciiL (l : List UInt8) : Bool := l.all fun c => decide (c.toNat ≤ 127)
def metaE : Bool → Bool → List UInt8 → Bool
  | _, _, [] => false
  | o, true, _ :: r => metaE o false r
  | o, false, c :: r =>
    if c.toNat = 92 then metaE o true r
    else if c.toNat = 42 ∨ c.toNat = 63 then true
    else if c.toNat = 91 then metaE true false r
    else if c.toNat = 93 ∧ o = true then true
    else metaE o false r
def metaL (o : Bool) (l : List UInt8) : Bool := metaE o false l
theorem metaE_true (o : Bool) (r : List UInt8) : metaE o true r = metaE o false (r.drop 1) := by
  cases r <;> simp [metaE]
theorem meta_esc {c : UInt8} {o : Bool} {r : List UInt8} (h : ((c.toNat : Int) == 92) = true) : metaL o (c :: r) = metaL o (r.drop 1) := by
  have h : c.toNat = 92 := by have := beq_iff_eq.1 h; omega
  rw [metaL, metaE, if_pos h, metaE_true, metaL]
theorem ne_of {c : UInt8} {n : Nat} (h : ((c.toNat : Int) == (n : Int)) = false) : ¬ c.toNat = n := by
  have := beq_eq_false_iff_ne.1 h; omega
theorem eq_of {c : UInt8} {n : Nat} (h : ((c.toNat : Int) == (n : Int)) = true) : c.toNat = n := by
  have := beq_iff_eq.1 h; omega
theorem meta_star {c : UInt8} {o : Bool} {r : List UInt8} (h : ((c.toNat : Int) == 42) = true) : metaL o (c :: r) = true := by
  have h := eq_of (n := 42) h
  simp [metaL, metaE, h]
theorem meta_any {c : UInt8} {o : Bool} {r : List UInt8} (h : ((c.toNat : Int) == 63) = true) : metaL o (c :: r) = true := by
  have h := eq_of (n := 63) h
  simp [metaL, metaE, h]
theorem meta_open {c : UInt8} {o : Bool} {r : List UInt8} (h : ((c.toNat : Int) == 91) = true) : metaL o (c :: r) = metaL true r := by
  have h := eq_of (n := 91) h
  simp [metaL, metaE, h]
theorem meta_close {c : UInt8} {r : List UInt8} (h : ((c.toNat : Int) == 93) = true) : metaL true (c :: r) = true := by
  have h := eq_of (n := 93) h
  simp [metaL, metaE, h]
theorem meta_close0 {c : UInt8} {r : List UInt8} (h : ((c.toNat : Int) == 93) = true) : metaL false (c :: r) = metaL false r := by
  have h := eq_of (n := 93) h
  simp [metaL, metaE, h]
theorem meta_other {c : UInt8} {o : Bool} {r : List UInt8} (h1 : ((c.toNat : Int) == 92) = false) (h2 : ((c.toNat : Int) == 42) = false) (h3 : ((c.toNat : Int) == 63) = false)
    (h4 : ((c.toNat : Int) == 91) = false) (h5 : ((c.toNat : Int) == 93) = false) : metaL o (c :: r) = metaL o r := by
  have h1 := ne_of (n := 92) h1
  have h2 := ne_of (n := 42) h2
  have h3 := ne_of (n := 63) h3
  have h4 := ne_of (n := 91) h4
  have h5 := ne_of (n := 93) h5
  simp [metaL, metaE, h1, h2, h3, h4, h5]
theorem drop_cons (s : ByteArray) (k : Nat) (h : k < s.size) : s.data.toList.drop k = s[k] :: s.data.toList.drop (k + 1) := by
  rw [List.drop_eq_getElem_cons (by simpa using h)]; rfl
theorem drop_end (s : ByteArray) (k : Nat) (h : s.size ≤ k) : s.data.toList.drop k = [] := by
  rw [List.drop_eq_nil_iff]; simpa using h
theorem word_range {n : Nat} (h : wordI n = true) : (48 ≤ n ∧ n ≤ 57) ∨ (97 ≤ n ∧ n ≤ 122) ∨ (65 ≤ n ∧ n ≤ 90) ∨ n = 95 := by
  simp [wordI, letterI] at h; omega
theorem metaL_word (o : Bool) : ∀ (a r : List UInt8), wordL a = true → metaL o (a ++ r) = metaL o r
  | [], r, _ => rfl
  | c :: a, r, h => by
    have h' : wordI c.toNat = true ∧ wordL a = true := by simpa [wordL] using h
    have hc := word_range h'.1
    rw [← metaL_word o a r h'.2]
    have h1 : ¬ c.toNat = 92 := by omega
    have h2 : ¬ c.toNat = 42 := by omega
    have h3 : ¬ c.toNat = 63 := by omega
    have h4 : ¬ c.toNat = 91 := by omega
    have h5 : ¬ c.toNat = 93 := by omega
    simp [metaL, metaE, h1, h2, h3, h4, h5]
theorem metaL_word_nil (o : Bool) (a : List UInt8) (h : wordL a = true) : metaL o a = false := by
  have := metaL_word o a [] h
  simpa [metaL, metaE] using this
theorem meta_law_any (a b : List UInt8) (h : wordL a = true) : metaL false (a ++ [63] ++ b) = true := by
  rw [List.append_assoc, metaL_word _ _ _ h]; simp [metaL, metaE]
theorem meta_law_star (a b : List UInt8) (h : wordL a = true) : metaL false (a ++ [42] ++ b) = true := by
  rw [List.append_assoc, metaL_word _ _ _ h]; simp [metaL, metaE]
theorem meta_law_quoted (a b : List UInt8) (h : wordL a = true) (h2 : wordL b = true) : metaL false (a ++ [92, 42] ++ b) = false := by
  rw [List.append_assoc, metaL_word _ _ _ h]; have := metaL_word_nil false b h2; simpa [metaL, metaE] using this
theorem data_app (a b : ByteArray) : (a ++ b).data.toList = a.data.toList ++ b.data.toList := by
  simp [ByteArray.data_append]
def quotedB (c : UInt8) : Bool := c.toNat == 42 || c.toNat == 63 || c.toNat == 91 || c.toNat == 92
def quote1 (c : UInt8) : List UInt8 := if quotedB c then [92, c] else [c]
def quoteL (l : List UInt8) : List UInt8 := l.flatMap quote1
theorem quoteL_plain : ∀ l : List UInt8, (∀ c ∈ l, quotedB c = false) → quoteL l = l
  | [], _ => rfl
  | c :: r, h => by
    have h1 := h c (by simp)
    have h2 := quoteL_plain r (fun x hx => h x (by simp [hx]))
    simp only [quoteL] at h2
    simp [quoteL, quote1, h1, h2]
theorem quoteL_length : ∀ l : List UInt8, l.length ≤ (quoteL l).length ∧ (quoteL l).length ≤ 2 * l.length
  | [] => by simp [quoteL]
  | c :: r => by
    have h := quoteL_length r
    simp only [quoteL] at h
    simp only [quoteL, List.flatMap_cons, List.length_append, List.length_cons, quote1]
    split <;> simp only [List.length_cons, List.length_nil] <;> omega
theorem quoteL_append (a b : List UInt8) : quoteL (a ++ b) = quoteL a ++ quoteL b := by simp [quoteL]
theorem take_snoc (s : ByteArray) (k : Nat) (h : k < s.size) : s.data.toList.take (k + 1) = s.data.toList.take k ++ [s[k]] := by
  rw [List.take_succ_eq_append_getElem (by simpa using h)]; rfl
theorem take_all (s : ByteArray) (k : Nat) (h : s.size ≤ k) : s.data.toList.take k = s.data.toList := by
  rw [List.take_of_length_le]; simpa using h
theorem quote_snoc (l : List UInt8) (c : UInt8) : quoteL (l ++ [c]) = quoteL l ++ quote1 c := by simp [quoteL]
theorem bytes_eta (s : ByteArray) : (⟨s.data.toList.toArray⟩ : ByteArray) = s := by cases s; simp
theorem asciiL_at (s : ByteArray) (h : asciiL s.data.toList = true) (k : Nat) (hk : k < s.size) : (s[k]'hk).toNat < 128 := by
  have h1 : s[k] ∈ s.data.toList := by
    have : s[k] = s.data.toList[k]'(by simpa using hk) := by simp; rfl
    rw [this]; exact List.getElem_mem _
  have := List.all_eq_true.1 h _ h1
  simp at this; omega
theorem quoted_no {c : UInt8} (h1 : ((c.toNat : Int) == 42) = false) (h2 : ((c.toNat : Int) == 63) = false) (h3 : ((c.toNat : Int) == 91) = false) (h4 : ((c.toNat : Int) == 92) = false) : quotedB c = false := by
  have h1 := ne_of (n := 42) h1
  have h2 := ne_of (n := 63) h2
  have h3 := ne_of (n := 91) h3
  have h4 := ne_of (n := 92) h4
  simp [quotedB, h1, h2, h3, h4]
theorem quoted_42 {c : UInt8} (h : ((c.toNat : Int) == 42) = true) : quotedB c = true := by
  have h := eq_of (n := 42) h
  simp [quotedB, h]
theorem quoted_63 {c : UInt8} (h : ((c.toNat : Int) == 63) = true) : quotedB c = true := by
  have h := eq_of (n := 63) h
  simp [quotedB, h]
theorem quoted_91 {c : UInt8} (h : ((c.toNat : Int) == 91) = true) : quotedB c = true := by
  have h := eq_of (n := 91) h
  simp [quotedB, h]
theorem quoted_92 {c : UInt8} (h : ((c.toNat : Int) == 92) = true) : quotedB c = true := by
  have h := eq_of (n := 92) h
  simp [quotedB, h]
theorem quoted_cases (c : UInt8) : (((c.toNat : Int) == 42) = false ∧ ((c.toNat : Int) == 63) = false ∧ ((c.toNat : Int) == 91) = false ∧ ((c.toNat : Int) == 92) = false) ∨ (((c.toNat : Int) == 42) = true) ∨ (((c.toNat : Int) == 42) = false ∧ ((c.toNat : Int) == 63) = true) ∨ (((c.toNat : Int) == 42) = false ∧ ((c.toNat : Int) == 63) = false ∧ ((c.toNat : Int) == 91) = true) ∨ (((c.toNat : Int) == 42) = false ∧ ((c.toNat : Int) == 63) = false ∧ ((c.toNat : Int) == 91) = false ∧ ((c.toNat : Int) == 92) = true) := by
  cases ((c.toNat : Int) == 42) <;> cases ((c.toNat : Int) == 63) <;> cases ((c.toNat : Int) == 91) <;> cases ((c.toNat : Int) == 92) <;> simp
def unqE : Bool → List UInt8 → Option (List UInt8)
  | false, [] => some []
  | true, [] => none
  | true, d :: r => (unqE false r).map (d :: ·)
  | false, c :: r =>
    if c.toNat = 42 ∨ c.toNat = 63 ∨ c.toNat = 91 then none
    else if c.toNat = 92 then unqE true r
    else (unqE false r).map (c :: ·)
def unqT (l : List UInt8) : List UInt8 := (unqE false l).getD []
def unqB (l : List UInt8) : Bool := (unqE false l).isSome
theorem unq_bad {c : UInt8} {r : List UInt8} (h : c.toNat = 42 ∨ c.toNat = 63 ∨ c.toNat = 91) : unqE false (c :: r) = none := by simp [unqE, h]
theorem unq_bad42 {c : UInt8} {r : List UInt8} (h : ((c.toNat : Int) == 42) = true) : unqE false (c :: r) = none := unq_bad (.inl (eq_of (n := 42) h))
theorem unq_bad63 {c : UInt8} {r : List UInt8} (h : ((c.toNat : Int) == 63) = true) : unqE false (c :: r) = none := unq_bad (.inr (.inl (eq_of (n := 63) h)))
theorem unq_bad91 {c : UInt8} {r : List UInt8} (h : ((c.toNat : Int) == 91) = true) : unqE false (c :: r) = none := unq_bad (.inr (.inr (eq_of (n := 91) h)))
theorem unq_esc {c d : UInt8} {r : List UInt8} (h : ((c.toNat : Int) == 92) = true) : unqE false (c :: d :: r) = (unqE false r).map (d :: ·) := by
  have h := eq_of (n := 92) h
  simp [unqE, h]
theorem unq_esc_end {c : UInt8} (h : ((c.toNat : Int) == 92) = true) : unqE false [c] = none := by
  have h := eq_of (n := 92) h
  simp [unqE, h]
theorem unq_other {c : UInt8} {r : List UInt8} (h1 : ((c.toNat : Int) == 42) = false) (h2 : ((c.toNat : Int) == 63) = false) (h3 : ((c.toNat : Int) == 91) = false) (h4 : ((c.toNat : Int) == 92) = false) : unqE false (c :: r) = (unqE false r).map (c :: ·) := by
  have h1 := ne_of (n := 42) h1
  have h2 := ne_of (n := 63) h2
  have h3 := ne_of (n := 91) h3
  have h4 := ne_of (n := 92) h4
  simp [unqE, h1, h2, h3, h4]
theorem map_step (o : Option (List UInt8)) (a : List UInt8) (c : UInt8) : (o.map (c :: ·)).map (a ++ ·) = o.map ((a ++ [c]) ++ ·) := by
  cases o <;> simp
theorem extract_one (s : ByteArray) (k : Nat) (h : k < s.size) : (s.extract k (k + 1)).data.toList = [s[k]] := by
  have h' : k < s.data.size := h
  rw [ByteArray.data_extract, Array.toList_extract, List.extract_eq_take_drop]
  rw [show k + 1 - k = 1 from by omega, List.drop_eq_getElem_cons (by simpa using h')]
  simp; rfl
theorem extract_one_size (s : ByteArray) (k : Nat) (h : k < s.size) : (s.extract k (k + 1)).size = 1 := by
  rw [ByteArray.size_extract]; omega
theorem unq_quote : ∀ l : List UInt8, unqE false (quoteL l) = some l
  | [] => rfl
  | c :: r => by
    have h := unq_quote r
    simp only [quoteL] at h
    rcases quoted_cases c with ⟨k1, k2, k3, k4⟩ | k1 | ⟨k1, k2⟩ | ⟨k1, k2, k3⟩ | ⟨k1, k2, k3, k4⟩
    · simp only [quoteL, List.flatMap_cons, quote1, quoted_no k1 k2 k3 k4]
      simp [unq_other k1 k2 k3 k4, h]
    · simp only [quoteL, List.flatMap_cons, quote1, quoted_42 k1]
      simp [unqE, h]
    · simp only [quoteL, List.flatMap_cons, quote1, quoted_63 k2]
      simp [unqE, h]
    · simp only [quoteL, List.flatMap_cons, quote1, quoted_91 k3]
      simp [unqE, h]
    · simp only [quoteL, List.flatMap_cons, quote1, quoted_92 k4]
      simp [unqE, h]
theorem meta_quote : ∀ l : List UInt8, metaL false (quoteL l) = false
  | [] => rfl
  | c :: r => by
    have h := meta_quote r
    simp only [quoteL, metaL] at h
    rcases quoted_cases c with ⟨k1, k2, k3, k4⟩ | k1 | ⟨k1, k2⟩ | ⟨k1, k2, k3⟩ | ⟨k1, k2, k3, k4⟩
    · have h1 := ne_of (n := 42) k1
      have h2 := ne_of (n := 63) k2
      have h3 := ne_of (n := 91) k3
      have h4 := ne_of (n := 92) k4
      simp only [quoteL, List.flatMap_cons, quote1, quoted_no k1 k2 k3 k4]
      simp [metaL, metaE, h1, h2, h3, h4, h]
    · simp only [quoteL, List.flatMap_cons, quote1, quoted_42 k1]
      simp [metaL, metaE, h]
    · simp only [quoteL, List.flatMap_cons, quote1, quoted_63 k2]
      simp [metaL, metaE, h]
    · simp only [quoteL, List.flatMap_cons, quote1, quoted_91 k3]
      simp [metaL, metaE, h]
    · simp only [quoteL, List.flatMap_cons, quote1, quoted_92 k4]
      simp [metaL, metaE, h]
theorem ascii_quote : ∀ l : List UInt8, asciiL l = true → asciiL (quoteL l) = true
  | [], _ => rfl
  | c :: r, h => by
    have h' : c.toNat ≤ 127 ∧ asciiL r = true := by simpa [asciiL] using h
    have h2 := ascii_quote r h'.2
    simp only [quoteL, asciiL] at h2
    simp only [quoteL, List.flatMap_cons, asciiL, List.all_append, h2, quote1]
    split <;> simp [h'.1]
theorem word_not_quoted {c : UInt8} (h : wordI c.toNat = true) : quotedB c = false := by
  have := word_range h
  simp [quotedB]; omega
theorem word_quote (l : List UInt8) (h : wordL l = true) : quoteL l = l :=
  quoteL_plain l fun c hc => word_not_quoted (List.all_eq_true.1 h c hc)
theorem word_ascii (l : List UInt8) (h : wordL l = true) : asciiL l = true :=
  List.all_eq_true.2 fun c hc => by
    have := word_range (n := c.toNat) (List.all_eq_true.1 h c hc)
    simp; omega
theorem size_mk (l : List UInt8) : (ByteArray.mk l.toArray).size = l.length := by simp [ByteArray.size]
theorem data_mk (l : List UInt8) : (ByteArray.mk l.toArray).data.toList = l := by simp
theorem size_toList (s : ByteArray) : s.data.toList.length = s.size := by rw [Array.length_toList]; rfl
theorem mk_app (a b : List UInt8) : (ByteArray.mk (a ++ b).toArray) = ByteArray.mk a.toArray ++ ByteArray.mk b.toArray := by
  apply ByteArray.ext; simp [ByteArray.data_append]
theorem size_mid (a b : ByteArray) (l : Array UInt8) (h : a.size ≤ 2147483647) (h2 : b.size ≤ 2147483647) (h3 : l.size ≤ 2) : (a ++ ⟨l⟩ ++ b).size < 9223372036854775806 := by
  have h4 : (ByteArray.mk l).size ≤ 2 := h3
  simp only [ByteArray.size_append]
  omega
end Go.Proofs.YtpfgmiocdgfniaaGreatFmt.Pat

namespace Go.Proofs.YtpfgmiocdgfniaaGreatFmt
open Go.RowKit
def atL (l sub : List UInt8) (i : Nat) : Bool := (l.drop i).take sub.length == sub
def idx (l sub : List UInt8) : Option Nat := (List.range (l.length + 1 - sub.length)).find? (atL l sub)
def idxI (l sub : List UInt8) : Int := match idx l sub with | some k => (k : Int) | none => -1
theorem extract_list (s : ByteArray) (a b : Nat) : (s.extract a b).data.toList = (s.data.toList.drop a).take (b - a) := by
  rw [ByteArray.data_extract, Array.toList_extract, List.extract_eq_take_drop]
theorem toList_data (s : ByteArray) : s.toList = s.data.toList := by rw [ByteArray.toList_eq]
theorem ret_int {k : IntKind} {a b : Int} (h : a = b) : Ending.returned (.int k a) = .returned (.int k b) := by rw [h]
theorem idx_le (l sub : List UInt8) (k : Nat) (h : idx l sub = some k) : k + sub.length ≤ l.length := by
  have := List.mem_of_find?_eq_some h
  simp at this; omega
theorem idxI_at (l sub : List UInt8) (k : Nat) (hk : k + sub.length ≤ l.length) (h : ∀ j, j < k → atL l sub j = false) (h1 : atL l sub k = true) : idxI l sub = (k : Int) := by
  have : idx l sub = some k := by
    unfold idx
    rw [List.find?_range_eq_some]
    exact ⟨h1, by simp; omega, fun j hj => by simp [h j hj]⟩
  simp [idxI, this]
theorem idxI_none (l sub : List UInt8) (k : Nat) (hk : l.length < k + sub.length) (h : ∀ j, j < k → atL l sub j = false) : idxI l sub = -1 := by
  have : idx l sub = none := by
    unfold idx
    rw [List.find?_eq_none]
    intro j hj
    simp at hj
    simp [h j (by omega)]
  simp [idxI, this]
theorem zzIndex_any (s sub : ByteArray) (w : World) (hs : s.size ≤ 4611686018427387904) (hu : sub.size ≤ 1000) :
    Calls Tryz.prog 67 #[.string s, .string sub] w fun e w' => e = .returned (.int .i64 (idxI s.data.toList sub.data.toList)) ∧ w = w' := by
  go_enter Tryz.func67, Tryz.ntmps67
  go_wp2
  go_loop [5] (fun i => ∃ k : Nat, k ≤ s.size + 1 ∧ i = .int .i64 k ∧ Hid (∀ j, j < k → atL s.data.toList sub.data.toList j = false)) (fun i => s.size + 1 - (intOf i).toNat)
  case atStart => exact ⟨0, Nat.zero_le _, rfl, Lib.hid (by intro j hj; omega)⟩
  case round =>
    obtain ⟨k, hk, rfl, H⟩ := hrel
    by_cases hlt : k + sub.size ≤ s.size
    · have hat : atL s.data.toList sub.data.toList k = ((s.extract k (k + sub.size)).toList == sub.toList) := by
        rw [toList_data, toList_data, extract_list, atL, Pat.size_toList, show k + sub.size - k = sub.size from by omega]
      have HAT := Lib.hid hat
      clear hat
      go_wp2
      · go_ret
        refine ⟨ret_int ?_, rfl⟩
        rw [idxI_at _ _ k (by rw [Pat.size_toList, Pat.size_toList]; omega) H.out (by rw [HAT.out]; assumption)]
      · go_round
        case rel =>
          refine ⟨k + 1, by omega, by go_num, Lib.hid ?_⟩
          intro j hj
          by_cases e : j = k
          · subst e; rw [HAT.out]; assumption
          · exact H.out j (by omega)
        case measure => simp [intOf]; omega
    · go_wp2
      go_ret
      refine ⟨ret_int ?_, rfl⟩
      rw [idxI_none _ _ k (by rw [Pat.size_toList, Pat.size_toList]; omega) H.out]
theorem zzContains_any (s sub : ByteArray) (w : World) (hs : s.size ≤ 4611686018427387904) (hu : sub.size ≤ 1000) :
    Calls Tryz.prog 47 #[.string s, .string sub] w fun e w' => e = .returned (.bool (idx s.data.toList sub.data.toList).isSome) ∧ w = w' := by
  have hz := zzIndex_any s sub
  cases hi : idx s.data.toList sub.data.toList with
  | none =>
    simp only [idxI, hi] at hz
    have HZ := Lib.hid hz
    clear hz hi
    go_enter Tryz.func47, Tryz.ntmps47
    go_wp2_with fail
    refine (HZ.out _ hs hu).mono ?_; rintro e w' ⟨rfl, rfl⟩
    go_wp2_with fail
    go_ret
    exact ⟨rfl, rfl⟩
  | some k =>
    simp only [idxI, hi] at hz
    have HZ := Lib.hid hz
    clear hz hi
    have h0 : (0 : Int) ≤ (k : Int) := by omega
    go_enter Tryz.func47, Tryz.ntmps47
    go_wp2_with fail
    refine (HZ.out _ hs hu).mono ?_; rintro e w' ⟨rfl, rfl⟩
    go_wp2_with fail
    go_ret
    exact ⟨by simp, rfl⟩
theorem zzCut_any (s sub : ByteArray) (w : World) (hs : s.size ≤ 4611686018427387904) (hu : sub.size ≤ 1000) :
    Calls Tryz.prog 64 #[.string s, .string sub] w fun e w' => (match idx s.data.toList sub.data.toList with | some k => e = .returned (.tuple #[.string (s.extract 0 k), .string (s.extract (k + sub.size) s.size), .bool true]) | none => e = .returned (.tuple #[.string s, .string ⟨#[]⟩, .bool false])) ∧ Below w.heap.size w w' := by
  have hz := zzIndex_any s sub
  cases hi : idx s.data.toList sub.data.toList with
  | none =>
    simp only [idxI, hi] at hz
    have HZ := Lib.hid hz
    clear hz hi
    go_enter Tryz.func64, Tryz.ntmps64
    go_wp2_with fail
    refine (HZ.out _ hs hu).mono ?_; rintro e w' ⟨rfl, rfl⟩
    go_wp2_with fail
    go_ret3
    exact ⟨rfl, Below.refl _ _⟩
  | some k =>
    simp only [idxI, hi] at hz
    have HZ := Lib.hid hz
    have hk := idx_le _ _ _ hi
    rw [Pat.size_toList, Pat.size_toList] at hk
    clear hz hi
    have h0 : (0 : Int) ≤ (k : Int) := by omega
    have h1 : (k : Int) ≤ (s.size : Int) := by omega
    have h2 : IntKind.i64.wrap ((k : Int) + (sub.size : Int)) = (k : Int) + (sub.size : Int) := IntWalk.i64_in _ (by omega)
    have h3 : ((k : Int) + (sub.size : Int)).toNat = k + sub.size := by omega
    have h4 : (0 : Int) ≤ (k : Int) + (sub.size : Int) := by omega
    have h5 : (k : Int) + (sub.size : Int) ≤ (s.size : Int) := by omega
    go_enter Tryz.func64, Tryz.ntmps64
    go_wp2_with fail
    refine (HZ.out _ hs hu).mono ?_; rintro e w' ⟨rfl, rfl⟩
    go_wp2_with fail
    go_quiet (fail)
    go_wp2_with fail
    go_ret3
    exact ⟨rfl, ⟨rfl, rfl, rfl, Nat.le_refl _, fun _ _ => rfl⟩⟩
end Go.Proofs.YtpfgmiocdgfniaaGreatFmt

namespace Go.Proofs.YtpfgmiocdgfniaaGreatFmt
open Go.RowKit Go.Extern.Stop Go.Stop Go.Extern
@[go_sem] theorem callErrorf (args : Array Value) (w : World) : (callFunc 80 args).run Tryz.prog w = ((FmtStop.errorf #[9, 147] #[49] args).run Tryz.prog w).andThen fun v w' => .ok (.value v) w' :=
  run_callFunc_extern Tryz.func80 (by kernel_rfl) (by kernel_rfl) (by kernel_rfl) (by kernel_rfl) args w
@[go_sem] theorem callSprintf (args : Array Value) (w : World) : (callFunc 44 args).run Tryz.prog w = ((FmtStop.sprintf #[9, 147] #[9] args).run Tryz.prog w).andThen fun v w' => .ok (.value v) w' :=
  run_callFunc_extern Tryz.func44 (by kernel_rfl) (by kernel_rfl) (by kernel_rfl) (by kernel_rfl) args w
@[go_sem] theorem fmtGuard (name : String) (w : World) : (FmtStop.guard name).run Tryz.prog w = .ok () w := by kernel_rfl
@[go_sem] theorem fmtQ (w : World) : (FmtDoors.printed ⟨#[105, 110, 118, 97, 108, 105, 100, 32, 99, 104, 97, 114, 97, 99, 116, 101, 114, 32, 99, 108, 97, 115, 115, 58, 32, 37, 113]⟩ 1).run Tryz.prog w = .ok [(0, 113, false)] w := by kernel_rfl
@[go_sem] theorem fmtC : FmtStop.printed? ⟨#[105, 110, 118, 97, 108, 105, 100, 32, 114, 97, 110, 103, 101, 58, 32, 37, 99, 45, 37, 99]⟩ 2 = some [(0, 99, false), (1, 99, false)] := by kernel_rfl
def shapeS : List UInt8 := [12, 6, 0, 0, 0, 0, 0, 0, 0, 115, 116, 114, 105, 110, 103]
@[go_sem] theorem opS (name : String) (x : ByteArray) (w : World) : (FmtStop.operand name true 113 false (.iface 9 (.string x))).run Tryz.prog w = .ok (shapeS, FmtStop.pack x.data.toList) w := by kernel_rfl
@[go_sem] theorem ptrErr (w : World) : (FmtStop.ptrTo "errors.errorString").run Tryz.prog w = .ok 154 w := by kernel_rfl
@[go_sem] theorem elemErr (w : World) : (elemOf 154).run Tryz.prog w = .ok 156 w := by kernel_rfl
def NewErr (w : World) (e : Ending) (w' : World) : Prop := ∃ k, w.heap.size ≤ k ∧ k < w'.heap.size ∧ e = .returned (.iface 154 (.pointer (some ⟨k, 0, none⟩))) ∧ Below w.heap.size w w'
theorem errorf_plain1 (w : World) : Calls Tryz.prog 65 #[.string ⟨#[99, 111, 108, 108, 97, 116, 105, 110, 103, 32, 102, 101, 97, 116, 117, 114, 101, 115, 32, 110, 111, 116, 32, 97, 118, 97, 105, 108, 97, 98, 108, 101]⟩, .slice none 0 0] w (NewErr w) := by
  go_enter Tryz.func65, Tryz.ntmps65
  go_wp2
  go_ret
  exact ⟨w.heap.size, Nat.le_refl _, by simp, rfl, (Below.refl _ _).alloc (Nat.le_refl _) _⟩
theorem errorf_plain2 (w : World) : Calls Tryz.prog 65 #[.string ⟨#[91, 91, 58, 32, 119, 97, 115, 32, 110, 111, 116, 32, 109, 97, 116, 99, 104, 101, 100, 32, 119, 105, 116, 104, 32, 97, 32, 99, 108, 111, 115, 105, 110, 103, 32, 58, 93]⟩, .slice none 0 0] w (NewErr w) := by
  go_enter Tryz.func65, Tryz.ntmps65
  go_wp2
  go_ret
  exact ⟨w.heap.size, Nat.le_refl _, by simp, rfl, (Below.refl _ _).alloc (Nat.le_refl _) _⟩
theorem errorf_q (F : Interp) (b : Nat) (nm : ByteArray) (w : World) (hF : F.answers w.tape) (hc : w.cell? ⟨b, 0, none⟩ = some (.iface 9 (.string nm))) :
    Calls Tryz.prog 65 #[.string ⟨#[105, 110, 118, 97, 108, 105, 100, 32, 99, 104, 97, 114, 97, 99, 116, 101, 114, 32, 99, 108, 97, 115, 115, 58, 32, 37, 113]⟩, .slice (some ⟨b, 0, none⟩) 1 1] w (NewErr w) := by
  have hF' := answers_open hF
  go_enter Tryz.func65, Tryz.ntmps65
  go_wp2
  go_ret
  exact ⟨w.heap.size, Nat.le_refl _, by simp, rfl, ((Below.refl _ _).alloc (Nat.le_refl _) _).drew⟩
end Go.Proofs.YtpfgmiocdgfniaaGreatFmt
