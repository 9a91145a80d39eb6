/- Joined by pack.py: RdA, RdB. -/
import Derived.Test.YtonifkkdokaooaaFmtP01
import Derived.Deep.QuietTactic
import Derived.BigQuiet
import Derived.StillTailTactics
import Derived.Deep.RegionWith
import Derived.IntWalk
import Derived.WalkSmall
import Derived.Deep.RegionHeld3
import Derived.Deep.MidRow
import Derived.Deep.AppendLies
import Derived.Deep.WholeRow
import Derived.Laws.ResultCell
import Derived.Deep.LoopGhost
/- Walks: the small methods of the laws' own reader of regular expressions. -/
namespace Go.Proofs.YtonifkkdokaooaaFmt
open Go.RowKit
set_option linter.unusedVariables false

abbrev tRd : TypeId := 54
abbrev tRe : TypeId := 29
abbrev tFl : TypeId := 57
/-- the reader in block rb: the text, the place, whether all is well -/
def RS (rb : Nat) (s : ByteArray) (i : Nat) (ok : Bool) (w : World) : Prop := w.heap[rb]? = some (.cells #[.string s, .int .i64 i, .bool ok] tRd (0, 0))
theorem RS.cells {rb : Nat} {s : ByteArray} {i : Nat} {ok : Bool} {w : World} (h : RS rb s i ok w) :
    w.cell? ⟨rb, 0, none⟩ = some (.string s) ∧ w.cell? ⟨rb, 1, none⟩ = some (.int .i64 i) ∧ w.cell? ⟨rb, 2, none⟩ = some (.bool ok) ∧ w.frozen? ⟨rb, 1, none⟩ = false ∧ w.frozen? ⟨rb, 2, none⟩ = false ∧ rb < w.heap.size := by
  unfold RS at h
  refine ⟨?_, ?_, ?_, ?_, ?_, (Array.getElem?_eq_some_iff.1 h).1⟩
  · rw [Lib.cell_of_heap h]; rfl
  · rw [Lib.cell_of_heap h]; rfl
  · rw [Lib.cell_of_heap h]; rfl
  · exact Lib.frozen_of_heap h 1
  · exact Lib.frozen_of_heap h 2
theorem RS.set {rb : Nat} {s : ByteArray} {i j : Nat} {ok : Bool} {w : World} (h : RS rb s i ok w) : RS rb s j ok (w.setCell ⟨rb, 1, none⟩ (.int .i64 j)) := by
  unfold RS at h ⊢
  simp [World.setCell, Array.getElem?_modify, h]
theorem RS.kept {rb : Nat} {s : ByteArray} {i : Nat} {ok : Bool} {w w' : World} {X : Nat → Prop} (h : RS rb s i ok w) (k : Kp X w w') (hX : ¬ X rb) : RS rb s i ok w' := k.heap hX h
theorem RS.drew {rb : Nat} {s : ByteArray} {i : Nat} {ok : Bool} {w : World} (n : Nat) (h : RS rb s i ok w) : RS rb s i ok (w.drewN n) := h

set_option maxRecDepth 100000 in
set_option maxHeartbeats 1000000 in
theorem more_any (rb : Nat) (s : ByteArray) (i : Nat) (ok : Bool) (w : World) (h : RS rb s i ok w) :
    Calls Tryf.prog 34 #[.pointer (some ⟨rb, 0, none⟩)] w fun e w' => e = .returned (.bool (ok && decide ((i : Int) < (s.size : Int)))) ∧ ∃ n, w' = w.drewN n := by
  obtain ⟨c0, c1, c2, _, _, _⟩ := h.cells
  clear h
  cases ok with
  | false =>
    go_enter Tryf.func34, Tryf.ntmps34
    go_wp2
    go_quiet (fail)
    go_wp2
    go_ret
    exact ⟨rfl, nq, rfl⟩
  | true =>
    go_enter Tryf.func34, Tryf.ntmps34
    go_wp2
    go_quiet (fail)
    go_wp2
    go_ret
    exact ⟨by simp, nq, rfl⟩
theorem Kp.drewN {X : Nat → Prop} {a w : World} (n : Nat) (h : Kp X a w) : Kp X a (w.drewN n) := ⟨h.os, h.tape, h.output, h.size, h.block⟩
/-- what is left to read -/
def Rm (s : ByteArray) (i : Nat) (r : List UInt8) : Prop := s.data.toList.drop i = r ∧ i ≤ s.size
theorem Rm.size {s : ByteArray} {i : Nat} {r : List UInt8} (h : Rm s i r) : i + r.length = s.size := by
  have := congrArg List.length h.1
  rw [List.length_drop, Pat.size_toList] at this
  have := h.2
  omega
theorem Rm.app {s : ByteArray} {i : Nat} {l r : List UInt8} (h : Rm s i (l ++ r)) : Rm s (i + l.length) r := by
  refine ⟨?_, by have := h.size; simp at this; omega⟩
  rw [← List.drop_drop, h.1, List.drop_left]
theorem Rm.tail {s : ByteArray} {i : Nat} {c : UInt8} {r : List UInt8} (h : Rm s i (c :: r)) : Rm s (i + 1) r := h.app (l := [c])
theorem Rm.at {s : ByteArray} {i : Nat} {c : UInt8} {r : List UInt8} (h : Rm s i (c :: r)) : ∃ hi : i < s.size, s[i] = c := by
  have hs := h.size
  simp only [List.length_cons] at hs
  refine ⟨by omega, ?_⟩
  have h1 : i < s.data.toList.length := by rw [Pat.size_toList]; omega
  have h2 := h.1
  rw [List.drop_eq_getElem_cons h1] at h2
  exact (List.cons.inj h2).1
theorem toList_data' (s : ByteArray) : s.toList = s.data.toList := by rw [ByteArray.toList_eq]
theorem Rm.cut {s lit : ByteArray} {i : Nat} {r : List UInt8} (h : Rm s i r) : (s.extract i (i + lit.size)).toList = r.take lit.size := by
  rw [toList_data', ByteArray.data_extract, Array.toList_extract, List.extract_eq_take_drop, h.1, show i + lit.size - i = lit.size from by omega]

set_option maxRecDepth 100000 in
set_option maxHeartbeats 1000000 in
theorem skip_f (rb : Nat) (s lit : ByteArray) (i : Nat) (ok : Bool) (w : World) (r : List UInt8) (h : RS rb s i ok w) (hs : s.size ≤ 4611686018427387904) (hl : lit.size ≤ 100) (hr : Rm s i r) (hno : lit.data.toList.isPrefixOf r = false) :
    Calls Tryf.prog 35 #[.pointer (some ⟨rb, 0, none⟩), .string lit] w fun e w' => e = .returned (.bool false) ∧ ∃ n, w' = w.drewN n := by
  obtain ⟨c0, c1, c2, _, _, _⟩ := h.cells
  have hsz := hr.size
  have hls := Pat.size_toList lit
  clear h
  have hw : IntKind.i64.wrap ((i : Int) + (lit.size : Int)) = (i : Int) + (lit.size : Int) := IntWalk.i64_in _ (by omega)
  by_cases hle : i + lit.size ≤ s.size
  · have hd : decide ((i : Int) + (lit.size : Int) ≤ (s.size : Int)) = true := by simp; omega
    have h0 : 0 ≤ (i : Int) + (lit.size : Int) := by omega
    have h1 : (i : Int) ≤ (i : Int) + (lit.size : Int) := by omega
    have h2 : (i : Int) + (lit.size : Int) ≤ (s.size : Int) := by omega
    have hn : ((i : Int) + (lit.size : Int)).toNat = i + lit.size := by omega
    have hb : ((s.extract i (i + lit.size)).toList == lit.toList) = false := by
      rw [hr.cut, toList_data', beq_eq_false_iff_ne]
      intro e
      rw [Bool.eq_false_iff] at hno
      exact hno (List.isPrefixOf_iff_prefix.2 ⟨r.drop lit.size, by rw [← e, List.take_append_drop]⟩)
    clear hr hno hsz hls hle
    go_enter Tryf.func35, Tryf.ntmps35
    go_wp2
    go_quiet (fail)
    go_wp2
    go_ret
    exact ⟨rfl, nq, rfl⟩
  · have hd : decide ((i : Int) + (lit.size : Int) ≤ (s.size : Int)) = false := by simp; omega
    clear hr hno hsz hls hle
    go_enter Tryf.func35, Tryf.ntmps35
    go_wp2
    go_quiet (fail)
    go_wp2
    go_ret
    exact ⟨rfl, nq, rfl⟩
set_option maxRecDepth 100000 in
set_option maxHeartbeats 1000000 in
theorem skip_t (rb : Nat) (s lit : ByteArray) (i : Nat) (ok : Bool) (w : World) (r : List UInt8) (h : RS rb s i ok w) (hs : s.size ≤ 4611686018427387904) (hr : Rm s i (lit.data.toList ++ r)) :
    Calls Tryf.prog 35 #[.pointer (some ⟨rb, 0, none⟩), .string lit] w fun e w' => e = .returned (.bool true) ∧ RS rb s (i + lit.size) ok w' ∧ Kp (· = rb) w w' := by
  obtain ⟨c0, c1, c2, f1, f2, _⟩ := h.cells
  have hsz := hr.size
  have hls := Pat.size_toList lit
  rw [List.length_append, hls] at hsz
  have hw : IntKind.i64.wrap ((i : Int) + (lit.size : Int)) = (i : Int) + (lit.size : Int) := IntWalk.i64_in _ (by omega)
  have hd : decide ((i : Int) + (lit.size : Int) ≤ (s.size : Int)) = true := by simp; omega
  have h0 : 0 ≤ (i : Int) + (lit.size : Int) := by omega
  have h1 : (i : Int) ≤ (i : Int) + (lit.size : Int) := by omega
  have h2 : (i : Int) + (lit.size : Int) ≤ (s.size : Int) := by omega
  have hn : ((i : Int) + (lit.size : Int)).toNat = i + lit.size := by omega
  have hb : ((s.extract i (i + lit.size)).toList == lit.toList) = true := by
    rw [hr.cut, toList_data', ← hls, List.take_left, beq_iff_eq]
  have H := Lib.hid h
  clear hr hsz hls h
  go_enter Tryf.func35, Tryf.ntmps35
  go_wp2
  go_quiet (fail)
  go_wp2
  go_ret
  refine ⟨rfl, ?_, ?_⟩
  · have := (H.out.drew nq).set (j := i + lit.size)
    simpa using this
  · exact Kp.setCell (X := (· = rb)) (p := ⟨rb, 1, none⟩) (Kp.drewN nq (Kp.refl _ w)) (.inl rfl) _
end Go.Proofs.YtonifkkdokaooaaFmt

/- Walks: nodes as values: fail, setOf, one. -/
namespace Go.Proofs.YtonifkkdokaooaaFmt
open Go.RowKit
set_option linter.unusedVariables false

/-- the cells of a node -/
def reC (k : Int) (set : List Value) (kv : Value) (l m : Int) : Array Value := (.int .i64 k :: (set ++ [kv, .int .i64 l, .int .i64 m])).toArray
def noV : List Value := List.replicate 128 (.bool false)
def reZ : Array Value := reC 0 noV (.slice none 0 0) 0 0
theorem infoRe : (Tryf.prog.info? tRe).map (fun i => (i.zero, i.size)) = some (some (.agg reZ), 132) := by kernel_rfl
theorem zeroRe (w : World) : (zeroValue tRe).run Tryf.prog w = .ok (.agg reZ) w := (zero_of_info infoRe).1 w
theorem sizeRe : (Tryf.prog.info? tRe).map (·.size) = some 132 := (zero_of_info infoRe).2
theorem builtRe2 : Tryf.prog.built tRe [(0, .int .i64 2)] = some (reC 2 noV (.slice none 0 0) 0 0) := by kernel_rfl
theorem builtRe5 : Tryf.prog.built tRe [(0, .int .i64 5)] = some (reC 5 noV (.slice none 0 0) 0 0) := by kernel_rfl
def oneC (l : List Value) : Prop := ∀ v ∈ l, v.oneCell' = true
theorem storeRe (w : World) (g : Nat) (old : Array Value) (cs : List Value) (hg : w.heap[g]? = some (.cells old tRe (0, 0))) (ho : old.size = 132) (hc : cs.length = 132) (h1 : oneC cs) :
    (storeCells ⟨g, 0, none⟩ cs).run Tryf.prog w = .ok () (w.setRow g cs.toArray) := by
  have := run_storeCells_from (P := Tryf.prog) g tRe cs 0 old w hg (by omega) h1
  simpa using this
theorem loadRe (w : World) (g : Nat) (cs : Array Value) (hg : w.heap[g]? = some (.cells cs tRe (0, 0))) (hc : cs.size = 132) :
    (loadCellsFrom ⟨g, 0, none⟩ 0 132 #[]).run Tryf.prog w = .ok cs w := by
  have := run_loadCells_list (P := Tryf.prog) w ⟨g, 0, none⟩ cs.toList (fun j v hv => by
    have hadd : (⟨g, 0, none⟩ : Addr).add j = ⟨g, j, none⟩ := by unfold Addr.add; split <;> simp_all
    rw [hadd, cell_of_row _ _ j cs tRe (0, 0) hg]
    simpa using hv)
  rw [Array.length_toList, hc] at this
  simpa [loadCells] using this
theorem resultRe {fn : Func} {p : Tmp} (h : fn.results = #[.cell p tRe]) (tmps : Array Value) (w : World) (g : Nat) (cs : Array Value) (hp : tmps.getD p undef = .pointer (some ⟨g, 0, none⟩)) (hg : w.heap[g]? = some (.cells cs tRe (0, 0))) (hc : cs.size = 132) :
    (results fn tmps).run Tryf.prog w = .ok (.agg cs) w :=
  results_cell_row h tmps w g tRe cs (0, 0) _ hp hg Tryf.underlying29 rfl (by rw [sizeRe, hc])
theorem oneC_reC {k : Int} {set : List Value} {kv : Value} {l m : Int} (h1 : oneC set) (h2 : kv.oneCell' = true) : oneC (reC k set kv l m).toList := by
  intro v hv
  simp only [reC, List.mem_cons, List.mem_append, List.not_mem_nil, or_false] at hv
  rcases hv with rfl | hv | rfl | rfl | rfl
  · rfl
  · exact h1 v hv
  · exact h2
  · rfl
  · rfl
theorem oneC_no : oneC noV := by
  intro v hv
  rw [List.eq_of_mem_replicate hv]; rfl
theorem reC_size {k : Int} {set : List Value} {kv : Value} {l m : Int} (h : set.length = 128) : (reC k set kv l m).size = 132 := by
  simp [reC, h]
theorem oneC_set2 (k : Int) : oneC (reZ.toList.set 0 (.int .i64 k)) := oneC_reC (k := k) (l := 0) (m := 0) (kv := .slice none 0 0) oneC_no rfl
theorem reZ_set (k : Int) : (reZ.toList.set 0 (.int .i64 k)).toArray = reC k noV (.slice none 0 0) 0 0 := rfl
theorem Kp.setRow {X : Nat → Prop} {a w : World} (h : Kp X a w) {g : Nat} (hg : X g ∨ a.heap.size ≤ g) (cs : Array Value) : Kp X a (w.setRow g cs) :=
  ⟨h.os, h.tape, h.output, by have := h.size; simp; omega, fun k hk hx => by
    rw [setRow_other _ _ _ _ (fun e => by subst e; rcases hg with hg | hg; exact hx hg; omega)]
    exact h.block k hk hx⟩
theorem RS.bad {rb : Nat} {s : ByteArray} {i : Nat} {ok b : Bool} {w : World} (h : RS rb s i ok w) : RS rb s i b (w.setCell ⟨rb, 2, none⟩ (.bool b)) := by
  unfold RS at h ⊢
  simp [World.setCell, Array.getElem?_modify, h]
set_option maxRecDepth 100000 in
set_option maxHeartbeats 1000000 in
theorem fail_any (rb : Nat) (s : ByteArray) (i : Nat) (ok : Bool) (w : World) (h : RS rb s i ok w) :
    Calls Tryf.prog 56 #[.pointer (some ⟨rb, 0, none⟩)] w fun e w' => e = .returned (.agg (reC 2 noV (.slice none 0 0) 0 0)) ∧ RS rb s i false w' ∧ Kp (· = rb) w w' := by
  obtain ⟨c0, c1, c2, f1, f2, hlt⟩ := h.cells
  have hz := zeroRe
  have H := Lib.hid h
  clear h
  go_enter Tryf.func56, Tryf.ntmps56
  go_wp2
  rw [storeRe _ w.heap.size reZ (reZ.toList.set 0 (.int .i64 2)) (by have := heap_alloc_new (w.setCell ⟨rb, 2, none⟩ (.bool false)) (.cells reZ tRe); simpa using this) rfl rfl (oneC_set2 2), reZ_set]
  go_wp2
  have hg := heap_alloc_new (w.setCell ⟨rb, 2, none⟩ (.bool false)) (.cells reZ tRe)
  have k1 : Kp (fun _ => False) (w.setCell ⟨rb, 2, none⟩ (.bool false)) (((w.setCell ⟨rb, 2, none⟩ (.bool false)).alloc (.cells reZ tRe)).setRow w.heap.size (reC 2 noV (.slice none 0 0) 0 0)) :=
    ((Kp.refl _ _).alloc _).setRow (.inr (by simp)) _
  refine bodyPost_ret (v := .agg (reC 2 noV (.slice none 0 0) 0 0)) (resultRe Tryf.results56 _ _ w.heap.size _ rfl (setRow_heap _ _ reZ _ tRe (0, 0) (by simpa using hg)) rfl) rfl ⟨rfl, ?_, ?_⟩
  · exact RS.kept (RS.bad H.out) k1 id
  · exact (Kp.setCell (X := (· = rb)) (p := ⟨rb, 2, none⟩) (Kp.refl _ w) (.inl rfl) _).trans (k1.mono (fun _ _ h => h.elim))
theorem ret_u8 {a b : Int} (h : a = b) : Ending.returned (.int .u8 a) = .returned (.int .u8 b) := by rw [h]
set_option maxHeartbeats 1000000 in
theorem other_any (c : Nat) (w : World) (hc : c < 128) : Calls Tryf.prog 75 #[.int .u8 c] w fun e w' => e = .returned (.int .u8 (Re.oth c)) ∧ w = w' := by
  by_cases h1 : 97 ≤ c ∧ c ≤ 122
  · have e : Re.oth c = c - 32 := by simp [Re.oth, h1]
    have d1 : decide ((97 : Int) ≤ (c : Int)) = true := by simp; omega
    have d2 : decide ((c : Int) ≤ 122) = true := by simp; omega
    rw [e]
    go_enter Tryf.func75, Tryf.ntmps75
    go_wp2
    go_ret
    exact ⟨ret_u8 (by omega), rfl⟩
  · by_cases h2 : 65 ≤ c ∧ c ≤ 90
    · have e : Re.oth c = c + 32 := by simp [Re.oth, h2]; omega
      have d1 : decide ((97 : Int) ≤ (c : Int)) = false := by simp; omega
      have d3 : decide ((65 : Int) ≤ (c : Int)) = true := by simp; omega
      have d2 : decide ((c : Int) ≤ 90) = true := by simp; omega
      rw [e]
      go_enter Tryf.func75, Tryf.ntmps75
      go_wp2
      go_ret
      exact ⟨ret_u8 (by omega), rfl⟩
    · have e : Re.oth c = c := by simp [Re.oth, h1, h2]
      rw [e]
      go_enter Tryf.func75, Tryf.ntmps75
      go_wp2
      all_goals
        go_ret
        first | exact ⟨rfl, rfl⟩ | (exfalso; omega)
end Go.Proofs.YtonifkkdokaooaaFmt
