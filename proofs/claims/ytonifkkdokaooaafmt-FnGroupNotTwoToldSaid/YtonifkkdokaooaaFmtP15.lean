/- Joined by pack.py: RdV, EnA, EnB, EnC, EnD. -/
import Derived.Test.YtonifkkdokaooaaFmtP10
import Derived.Laws.MakeOwn
/- Walk: ReadRegexp. -/
namespace Go.Proofs.YtonifkkdokaooaaFmt
open Go.RowKit
open Re (Fo G Su Ato)
set_option linter.unusedVariables false

theorem bool_range (b : Nat) (o : Nat) (C : Array Value) (w : World) (h : w.heap[b]? = some (.cells C tRe (0, 0))) (hc : C.size = 132) : w.rangeAt b 0 C.toList ∧ w.there b 0 132 := by
  refine ⟨fun j v hv => ?_, fun j hj => ⟨?_, ?_⟩⟩
  · rw [Nat.zero_add, Lib.cell_of_heap h]; simpa using hv
  · rw [Nat.zero_add, Lib.cell_of_heap h, Array.getElem?_eq_getElem (by omega)]; rfl
  · rw [Nat.zero_add]; exact Lib.frozen_of_heap h j
theorem resultTmp {fn : Func} {p u : Tmp} (h : fn.results = #[.cell p tRe, .tmp u]) (tmps : Array Value) (w : World) (g : Nat) (cs : Array Value) (x : Value) (hp : tmps.getD p undef = .pointer (some ⟨g, 0, none⟩)) (hg : w.heap[g]? = some (.cells cs tRe (0, 0))) (hc : cs.size = 132) (hx : tmps.getD u undef = x) :
    (results fn tmps).run Tryf.prog w = .ok (.tuple #[.agg cs, x]) w := by
  rw [results_cell_tmp h, hp, hx]
  simp only [asAddr, Sem.run_pure, Result.andThen_ok, run_loadVar_row w g tRe tRe cs (0, 0) _ hg Tryf.underlying29 rfl (by rw [sizeRe, hc])]
/-- the cells of a node at a pointer -/
def cellsAt (w : World) : Value → Array Value
  | .pointer (some ⟨b, 0, none⟩) => (match w.heap[b]? with | some (.cells c _ _) => c | _ => #[])
  | _ => #[]
/-- a node lies there, and may be written -/
def nodeAt (w : World) (v : Value) : Prop := ∃ b c, v = .pointer (some ⟨b, 0, none⟩) ∧ w.heap[b]? = some (.cells c tRe (0, 0)) ∧ c.size = 132
def blkOf : Value → Nat
  | .pointer (some a) => a.block
  | _ => 0
def ldRe (v : Value) : Sem Value := Instr.loadAt 29 v
theorem ld_eq (v : Value) : Instr.loadAt 29 v = ldRe v := rfl
theorem run_ldRe (w : World) (v : Value) (h : nodeAt w v) : (ldRe v).run Tryf.prog w = .ok (.agg (cellsAt w v)) w := by
  obtain ⟨b, c, rfl, hb, hc⟩ := h
  have hcell : cellsAt w (.pointer (some ⟨b, 0, none⟩)) = c := by simp [cellsAt, hb]
  rw [hcell]
  unfold ldRe
  simp only [Instr.loadAt, Instr.sureAddr, Sem.run_bind, Sem.run_pure, Result.andThen_ok, run_loadVar_row w b tRe tRe c (0, 0) _ hb Tryf.underlying29 rfl (by rw [sizeRe, hc])]
def stRe (v x : Value) : Sem Unit := Instr.storeAt 29 v x
theorem st_eq (v x : Value) : Instr.storeAt 29 v x = stRe v x := rfl
def oneNode (v : Value) : Prop := ∃ c : Array Value, v = .agg c ∧ c.size = 132 ∧ oneC c.toList
theorem run_stRe (w : World) (v x : Value) (h : nodeAt w v) (hy : oneNode x) : (stRe v x).run Tryf.prog w = .ok () (w.setRow (blkOf v) x.cells) := by
  obtain ⟨b, c, rfl, hb, hc⟩ := h
  obtain ⟨d, rfl, hd1, hd2⟩ := hy
  unfold stRe
  simp only [Instr.storeAt, Instr.sureAddr, Sem.run_bind, Sem.run_pure, Result.andThen_ok, run_storeVar_row w b tRe tRe c d hb (by rw [sizeRe, hd1]) (by rw [hc, hd1]) (Array.all_eq_true_iff_forall_mem.2 (fun v hv => hd2 v (by simpa using hv))), blkOf, Value.cells]
attribute [local go_sem ↓] ld_eq st_eq
attribute [local go_sem] run_ldRe run_stRe
set_option maxHeartbeats 4000000 in
set_option maxRecDepth 100000 in
theorem read_walk (g : G) (hA : AltOK g) (s : ByteArray) (w : World) (hs : s.size ≤ 274877906944) (ht : s.data.toList = bs (Re.pr g)) (hok : g.ok = true) (hct : noC g = true ∨ CT w) :
    Calls Tryf.prog 17 #[.string s] w fun e w' => ∃ c, e = .returned (.tuple #[.agg c, .bool true]) ∧ Nd (fun x => w.heap.size ≤ x) w' 3 Re.no128 (Re.lists g false false) 0 0 c ∧ Below w.heap.size w w' := by
  have hz := zeroRe
  have HA := Lib.hid hA
  have HT := Lib.hid ht
  clear hA ht
  go_enter Tryf.func17, Tryf.ntmps17
  go_wp2_with fail
  obtain ⟨W, hW⟩ : ∃ W, (w.alloc (.cells reZ tRe)).alloc (.cells #[.string s, .int .i64 0, .bool true] tRd) = W := ⟨_, rfl⟩
  have hWs : W.heap.size = w.heap.size + 1 + 1 := by rw [← hW]; simp
  have kW : Kp (fun _ => False) w W := by rw [← hW]; exact ((Kp.refl _ _).alloc _).alloc _
  have z0 : W.heap[w.heap.size]? = some (.cells reZ tRe (0, 0)) := by
    rw [← hW, Lib.alloc_old _ _ _ (by simp)]; exact heap_alloc_new w _
  have r0 : RS (w.heap.size + 1) s 0 true W := by
    unfold RS
    rw [← hW]; have := heap_alloc_new (w.alloc (.cells reZ tRe)) (.cells #[.string s, .int .i64 0, .bool true] tRd); simpa using this
  have hm : Rm s 0 (bs (Re.pr g) ++ []) := ⟨by rw [List.append_nil, List.drop_zero]; exact HT.out, Nat.zero_le _⟩
  have hlen : 0 + (Re.pr g).length = s.size := by
    have := congrArg List.length HT.out
    rw [Pat.size_toList] at this
    simp [bs] at this; omega
  have hc := HA.out (w.heap.size + 1) s 0 [] false false W r0 hs hm (.inl rfl) hok (hct.imp id (fun c => c.kept kW (fun _ h => h.elim)))
  rw [hlen] at hc
  have HC := Lib.hid hc
  clear hc hlen hm r0
  rw [hW]
  clear hW
  refine HC.out.mono ?_
  rintro e w1 ⟨c, rfl, hn, hr, hk⟩
  have ec : c.size = 132 := hn.size
  have H1 := Lib.hid hn.oneC
  have z1 : w1.heap[w.heap.size]? = some (.cells reZ tRe (0, 0)) := hk.heap (by show ¬ w.heap.size = w.heap.size + 1; omega) z0
  have HN := Lib.hid hn
  have HR := Lib.hid hr
  have HK := Lib.hid hk
  clear hn hr hk z0
  have m1 : nodeAt (w1.alloc (.cells reZ tRe)) (.pointer (some ⟨w1.heap.size, 0, none⟩)) := ⟨_, reZ, rfl, heap_alloc_new w1 _, rfl⟩
  have n4 : oneNode (.agg c) := ⟨c, rfl, ec, H1.out⟩
  go_upto_region 3 with fail
  clear m1
  simp only [blkOf, World.setRow_alloc_new]
  obtain ⟨V, hV⟩ : ∃ V, w1.alloc (.cells c tRe) = V := ⟨_, rfl⟩
  have kV : Kp (fun _ => False) w1 V := by rw [← hV]; exact (Kp.refl _ _).alloc _
  have HZV : Hid (V.heap[w.heap.size]? = some (.cells reZ tRe (0, 0))) := Lib.hid (kV.heap id z1)
  have HCV : Hid (V.heap[w1.heap.size]? = some (.cells c tRe (0, 0))) := Lib.hid (by rw [← hV]; exact heap_alloc_new w1 _)
  have HRV := Lib.hid (HR.out.kept kV id)
  have HNV := Lib.hid (HN.out.kept kV (fun _ _ => id))
  have HKV := Lib.hid (HK.out.trans kV.false_mono)
  obtain ⟨q0, q1, q2, _, _, q5⟩ := HRV.out.cells
  have rc := (bool_range w1.heap.size 0 c V HCV.out ec).1
  have rz := (bool_range w.heap.size 0 reZ V HZV.out rfl).2
  have hzc : w.heap.size ≠ w1.heap.size := by have := HK.out.size; omega
  have hu := Tryf.underlying29
  have hi : (Tryf.prog.info? tRe).map (·.size) = some c.toList.length := by rw [Array.length_toList, ec]; exact sizeRe
  have hl : c.toList.length = 132 := by rw [Array.length_toList, ec]
  have h1 : ∀ v ∈ c.toList, v.oneCell' = true := H1.out
  rw [hV]
  clear hV kV z1
  have n1 : nodeAt V.drew (.pointer (some ⟨w1.heap.size, 0, none⟩)) := ⟨_, c, rfl, HCV.out, ec⟩
  have n2 : nodeAt V.drew (.pointer (some ⟨w.heap.size, 0, none⟩)) := ⟨_, reZ, rfl, HZV.out, rfl⟩
  have n3 : cellsAt V.drew (.pointer (some ⟨w1.heap.size, 0, none⟩)) = c := by
    have := HCV.out
    show (match V.heap[w1.heap.size]? with | some (.cells c _ _) => c | _ => #[]) = c
    rw [this]
  have kz : Kp (fun x => x = w.heap.size) V (V.drew.setRow w.heap.size c) := Kp.setRow (X := fun x => x = w.heap.size) (g := w.heap.size) (Kp.drew (Kp.refl _ V)) (.inl rfl) _
  have hc5 := kz.heap (by show ¬ w1.heap.size = w.heap.size; omega) HCV.out
  have hz5 : (V.drew.setRow w.heap.size c).heap[w.heap.size]? = some (.cells c tRe (0, 0)) := setRow_heap _ _ reZ _ _ _ HZV.out
  have hr5 := HRV.out.kept kz (by show ¬ w.heap.size + 1 = w.heap.size; omega)
  have HN5 := Lib.hid (HNV.out.kept kz (fun x hx => by have hx : W.heap.size ≤ x := hx; show ¬ x = w.heap.size; omega))
  have HK5 := Lib.hid (Kp.below (B := w.heap.size) (((kW.false_mono.trans HKV.out : Kp (fun x => x = w.heap.size + 1) w V)).seq' (Y := fun x => x = w.heap.size) kz (fun x hx _ => by show ¬ x = w.heap.size; omega)) (Nat.le_refl _) (fun k hk => by show ¬ k = w.heap.size + 1; omega))
  obtain ⟨_, p1, p2, _, _, _⟩ := hr5.cells
  have K5 : Hid (nodeAt (V.drew.setRow w.heap.size c) (.pointer (some ⟨w1.heap.size, 0, none⟩)) ∧ nodeAt (V.drew.setRow w.heap.size c) (.pointer (some ⟨w.heap.size, 0, none⟩)) ∧ cellsAt (V.drew.setRow w.heap.size c) (.pointer (some ⟨w1.heap.size, 0, none⟩)) = c ∧ (V.drew.setRow w.heap.size c).cell? ⟨w.heap.size + 1, 2, none⟩ = some (.bool true) ∧ (V.drew.setRow w.heap.size c).cell? ⟨w.heap.size + 1, 1, none⟩ = some (.int .i64 s.size)) :=
    Lib.hid ⟨⟨_, c, rfl, hc5, ec⟩, ⟨_, c, rfl, hz5, ec⟩, by simp only [cellsAt, hc5], p2, p1⟩
  have K0 : Hid (nodeAt V.drew (.pointer (some ⟨w1.heap.size, 0, none⟩)) ∧ nodeAt V.drew (.pointer (some ⟨w.heap.size, 0, none⟩)) ∧ cellsAt V.drew (.pointer (some ⟨w1.heap.size, 0, none⟩)) = c ∧ V.drew.cell? ⟨w.heap.size + 1, 2, none⟩ = some (.bool true) ∧ V.drew.cell? ⟨w.heap.size + 1, 1, none⟩ = some (.int .i64 s.size)) := Lib.hid ⟨n1, n2, n3, q2, q1⟩
  have HC5 := Lib.hid hz5
  have EC := Lib.hid ec
  clear kz hc5 hz5 hr5 p1 p2
  go_region_held3 (fun w' => nodeAt w' (.pointer (some ⟨w1.heap.size, 0, none⟩)) ∧ nodeAt w' (.pointer (some ⟨w.heap.size, 0, none⟩)) ∧ cellsAt w' (.pointer (some ⟨w1.heap.size, 0, none⟩)) = c ∧ w'.cell? ⟨w.heap.size + 1, 2, none⟩ = some (.bool true) ∧ w'.cell? ⟨w.heap.size + 1, 1, none⟩ = some (.int .i64 s.size)) (first | assumption | exact K5.out | exact K0.out) (fail)
  go_wp2
  refine bodyPost_ret (v := .tuple #[.agg c, .bool true]) ?_ rfl ⟨c, rfl, HN5.out.mono (fun x hx _ => by have hx : W.heap.size ≤ x := hx; show w.heap.size ≤ x; omega), HK5.out⟩
  exact resultTmp Tryf.results17 _ _ _ _ _ rfl HC5.out EC.out rfl
end Go.Proofs.YtonifkkdokaooaaFmt

/- Walk: same. -/
namespace Go.Proofs.YtonifkkdokaooaaFmt
open Go.RowKit
set_option linter.unusedVariables false

/-- a list of bools lies there -/
structure BL (w : World) (b : Nat) (v : Value) (l : List Bool) : Prop where
  eq : ∃ c, v = .slice (some ⟨b, 0, none⟩) l.length c
  at' : w.rangeAt b 0 (l.map .bool)
  old : b < w.heap.size
theorem range_bl {w : World} {b : Nat} {l : List Bool} (h : w.rangeAt b 0 (l.map .bool)) (c : Nat) (hc : c < l.length) : w.cell? ⟨b, c, none⟩ = some (.bool l[c]) := by
  have := h c (.bool l[c]) (by rw [List.getElem?_map, List.getElem?_eq_getElem hc]; rfl)
  rwa [Nat.zero_add] at this
set_option maxHeartbeats 1000000 in
theorem same_any (w : World) (b b' : Nat) (v v' : Value) (l l' : List Bool) (h : BL w b v l) (h' : BL w b' v' l') (hl : l'.length = l.length) (hs : l.length ≤ 549755813888) :
    Calls Tryf.prog 39 #[v, v'] w fun e w' => e = .returned (.bool (decide (l = l'))) ∧ Below w.heap.size w w' := by
  obtain ⟨⟨c, rfl⟩, h1, h2⟩ := h
  obtain ⟨⟨c', rfl⟩, h1', h2'⟩ := h'
  go_enter Tryf.func39, Tryf.ntmps39
  go_wp2
  go_loopg [8] l.length (fun g s8 wx => ∃ c : Nat, c + g = l.length ∧ s8 = .int .i64 c ∧ l.take c = l'.take c ∧ ∃ n, wx = w.drewN n)
  case atStart => exact ⟨0, by omega, rfl, rfl, 0, rfl⟩
  case round =>
    obtain ⟨k, hcg, rfl, hk, n, rfl⟩ := hrel
    cases gk with
    | zero =>
      obtain rfl : k = l.length := by omega
      have e : l = l' := by rw [List.take_of_length_le (Nat.le_refl _), List.take_of_length_le (by omega)] at hk; exact hk
      go_wp2
      go_ret
      exact ⟨by simp [e], ((Kp.refl (fun _ => False) w).drewN n).below (Nat.le_refl _) (fun _ _ => id)⟩
    | succ g =>
      have i0 : (k : Int) < (l.length : Int) := by omega
      have g1 := range_bl h1 k (by omega)
      have g2 := range_bl h1' k (by omega)
      have hk1 : k < l.length := by omega
      have hk2 : k < l'.length := by omega
      generalize hx : l[k]'(by omega) = x at g1
      generalize hy : l'[k]'(by omega) = y at g2
      have i1 : (k : Int) < (l'.length : Int) := by omega
      have i2 : (0 : Int) ≤ (k : Int) := by omega
      cases x <;> cases y
      all_goals
        go_wp2
        go_quiet (fail)
        go_wp2
      · go_roundg g
        case measure => omega
        case rel =>
          refine ⟨k + 1, by omega, by go_num, ?_, _, rfl⟩
          rw [List.take_add_one, List.take_add_one, hk, List.getElem?_eq_getElem hk1, List.getElem?_eq_getElem hk2, hx, hy]
      · go_ret
        have hne : ¬ l = l' := by intro e; subst e; rw [hx] at hy; exact absurd hy (by decide)
        exact ⟨by simp [hne], (((Kp.refl (fun _ => False) w).drewN _).drewN _).below (Nat.le_refl _) (fun _ _ => id)⟩
      · go_ret
        have hne : ¬ l = l' := by intro e; subst e; rw [hx] at hy; exact absurd hy (by decide)
        exact ⟨by simp [hne], (((Kp.refl (fun _ => False) w).drewN _).drewN _).below (Nat.le_refl _) (fun _ _ => id)⟩
      · go_roundg g
        case measure => omega
        case rel =>
          refine ⟨k + 1, by omega, by go_num, ?_, _, rfl⟩
          rw [List.take_add_one, List.take_add_one, hk, List.getElem?_eq_getElem hk1, List.getElem?_eq_getElem hk2, hx, hy]
end Go.Proofs.YtonifkkdokaooaaFmt

/- Walk: both. -/
namespace Go.Proofs.YtonifkkdokaooaaFmt
open Go.RowKit
set_option linter.unusedVariables false

theorem infoBool : (Tryf.prog.info? 4).map (fun i => (i.zero, i.bytes, i.size)) = some (some (.bool false), 1, 1) := by kernel_rfl
theorem made_bools (n : Nat) : madeCells #[.bool false] n = Array.replicate n (.bool false) := by
  apply Array.ext
  · simp [madeCells]
  · intro k h1 h2
    simp [madeCells, Nat.mod_one]
theorem makeBools (n : Nat) (hn : n ≤ 549755813888) (w : World) : (Instr.makeSlice 58 (.int .i64 (n : Int)) (.int .i64 (n : Int))).run Tryf.prog w = .ok (.slice (some ⟨w.heap.size, 0, none⟩) n n) (w.alloc (.cells (Array.replicate n (.bool false)) 4)) := by
  obtain ⟨i, hi, hz, hb, hs⟩ : ∃ i, Tryf.prog.info? 4 = some i ∧ i.zero = some (.bool false) ∧ i.bytes = 1 ∧ i.size = 1 := by
    have h := infoBool
    cases e : Tryf.prog.info? 4 with
    | none => rw [e] at h; cases h
    | some i =>
      rw [e] at h
      simp only [Option.map_some, Option.some.injEq, Prod.mk.injEq] at h
      exact ⟨i, rfl, h.1, h.2.1, h.2.2⟩
  rw [run_make w 58 4 i (.bool false) Tryf.underlying58 hi hz .i64 .i64 n n (by omega) (Int.le_refl _) (by rw [hb]; omega) (by omega)]
  rw [hs, Int.toNat_natCast, Nat.mul_one]
  rw [show (Value.bool false).cells = #[.bool false] from rfl, made_bools]
end Go.Proofs.YtonifkkdokaooaaFmt

/- Walk: both. -/
namespace Go.Proofs.YtonifkkdokaooaaFmt
open Go.RowKit
set_option linter.unusedVariables false

def mkB (a b : Value) : Sem Value := Instr.makeSlice 58 a b
theorem mk_eq (a b : Value) : Instr.makeSlice 58 a b = mkB a b := rfl
theorem run_mkB (n : Nat) (w : World) (hn : n ≤ 549755813888) : (mkB (.int .i64 (n : Int)) (.int .i64 (n : Int))).run Tryf.prog w = .ok (.slice (some ⟨w.heap.size, 0, none⟩) n n) (w.alloc (.cells (Array.replicate n (.bool false)) 4)) := makeBools n hn w
attribute [local go_sem ↓] mk_eq
attribute [local go_sem] run_mkB
/-- the first k places of two lists together -/
def bothC (l l' : List Bool) (k : Nat) : Array Value := (((List.zipWith (· || ·) l l').take k ++ List.replicate (l.length - k) false).map .bool).toArray
theorem bothC_zero (l l' : List Bool) : bothC l l' 0 = Array.replicate l.length (.bool false) := by
  apply Array.ext'
  simp [bothC]
theorem bothC_old (l l' : List Bool) (k : Nat) (hk : k < l.length) (hl : l'.length = l.length) : (bothC l l' k)[k]? = some (.bool false) := by
  simp only [bothC, List.getElem?_toArray, List.getElem?_map]
  rw [List.getElem?_append_right (by simp; omega), List.length_take, List.length_zipWith, List.getElem?_replicate, if_pos (by omega)]
  rfl
theorem bothC_succ (l l' : List Bool) (k : Nat) (hk : k < l.length) (hk' : k < l'.length) (hl : l'.length = l.length) : (bothC l l' k).setIfInBounds k (.bool (l[k] || l'[k])) = bothC l l' (k + 1) := by
  apply Array.ext_getElem?
  intro j
  rw [Array.getElem?_setIfInBounds]
  simp only [bothC, List.getElem?_toArray, List.getElem?_map, List.size_toArray, List.length_map, List.length_append, List.length_take, List.length_zipWith, List.length_replicate]
  by_cases e : k = j
  · subst e
    rw [if_pos rfl, if_pos (by omega), List.getElem?_append_left (by simp; omega), List.getElem?_take_of_lt (by omega)]
    simp [hk, hk', List.getElem?_zipWith]
  · rw [if_neg e]
    by_cases h : j < k
    · rw [List.getElem?_append_left (by simp; omega), List.getElem?_append_left (by simp; omega), List.getElem?_take_of_lt (by omega), List.getElem?_take_of_lt (by omega)]
    · rw [List.getElem?_append_right (by simp; omega), List.getElem?_append_right (by simp; omega)]
      simp only [List.length_take, List.length_zipWith, List.getElem?_replicate]
      by_cases h2 : j < l.length
      · rw [if_pos (by omega), if_pos (by omega)]
      · rw [if_neg (by omega), if_neg (by omega)]
theorem heap_setCell_row {w : World} {b k : Nat} {v : Value} {cs : Array Value} {t : TypeId} {fr : Nat × Nat} (h : w.heap[b]? = some (.cells cs t fr)) : (w.setCell ⟨b, k, none⟩ v).heap[b]? = some (.cells (cs.setIfInBounds k v) t fr) := by
  simp [World.setCell, Array.getElem?_modify, h]
set_option maxHeartbeats 1000000 in
theorem both_any (w : World) (b b' : Nat) (v v' : Value) (l l' : List Bool) (h : BL w b v l) (h' : BL w b' v' l') (hl : l'.length = l.length) (hs : l.length ≤ 549755813888) :
    Calls Tryf.prog 38 #[v, v'] w fun e w' => ∃ r, e = .returned r ∧ (∃ b2, w.heap.size ≤ b2 ∧ BL w' b2 r (List.zipWith (· || ·) l l')) ∧ Below w.heap.size w w' := by
  obtain ⟨⟨c, rfl⟩, h1, h2⟩ := h
  obtain ⟨⟨c', rfl⟩, h1', h2'⟩ := h'
  go_enter Tryf.func38, Tryf.ntmps38
  go_wp2
  go_loopg [12] l.length (fun g s12 wx => ∃ k : Nat, k + g = l.length ∧ s12 = .int .i64 k ∧ Kp (fun _ => False) w wx ∧ wx.heap[w.heap.size]? = some (.cells (bothC l l' k) 4 (0, 0)))
  case atStart => exact ⟨0, by omega, rfl, (Kp.refl _ _).alloc _, by rw [bothC_zero]; exact heap_alloc_new w _⟩
  case round =>
    obtain ⟨k, hcg, rfl, hK, hH⟩ := hrel
    cases gk with
    | zero =>
      obtain rfl : k = l.length := by omega
      go_wp2
      go_ret
      refine ⟨_, rfl, ⟨w.heap.size, Nat.le_refl _, ⟨⟨_, by simp [hl]; rfl⟩, ?_, ?_⟩⟩, hK.below (Nat.le_refl _) (fun _ _ => id)⟩
      · intro j v hv
        rw [Nat.zero_add, Lib.cell_of_heap hH, ← hv]
        simp only [bothC, List.getElem?_toArray, Nat.sub_self, List.replicate_zero, List.append_nil]
        rw [List.take_of_length_le (by simp; omega)]
      · have := (Array.getElem?_eq_some_iff.1 hH).1
        exact this
    | succ g =>
      have hk1 : k < l.length := by omega
      have hk2 : k < l'.length := by omega
      have g1 := hK.cell id (range_bl h1 k hk1)
      have g2 := hK.cell id (range_bl h1' k hk2)
      have g3 : wr.cell? ⟨w.heap.size, k, none⟩ = some (.bool false) := by
        rw [Lib.cell_of_heap hH]; exact bothC_old l l' k hk1 hl
      have g4 : wr.frozen? ⟨w.heap.size, k, none⟩ = false := Lib.frozen_of_heap hH k
      have i0 : (k : Int) < (l.length : Int) := by omega
      have i1 : (k : Int) < (l'.length : Int) := by omega
      have i2 : (0 : Int) ≤ (k : Int) := by omega
      have fin : ∀ wy, Kp (fun _ => False) wr wy → True := fun _ _ => trivial
      generalize hx : l[k]'hk1 = x at g1
      generalize hy : l'[k]'hk2 = y at g2
      clear fin
      cases x <;> cases y
      all_goals go_wp2
      all_goals
        go_roundg g
        case measure => omega
        case rel =>
          refine ⟨k + 1, by omega, by go_num, ?_, ?_⟩
          · exact hK.setCell (.inr (Nat.le_refl _)) _
          · rw [heap_setCell_row hH, ← bothC_succ l l' k hk1 hk2 hl, hx, hy]; rfl
end Go.Proofs.YtonifkkdokaooaaFmt

/- Walk: ends: its contract; the nodes without kids. -/
namespace Go.Proofs.YtonifkkdokaooaaFmt
open Go.RowKit
open Re (Fo nodeE mean setE begE finE falses)
set_option linter.unusedVariables false

/-- the first k places of a list, and none behind them -/
def part (L : List Bool) (k : Nat) : Array Value := ((L.take k ++ List.replicate (L.length - k) false).map .bool).toArray
theorem part_zero (L : List Bool) : part L 0 = Array.replicate L.length (.bool false) := by
  apply Array.ext'
  simp [part]
theorem part_size (L : List Bool) (k : Nat) (hk : k ≤ L.length) : (part L k).size = L.length := by simp [part]; omega
theorem part_old (L : List Bool) (k : Nat) (hk : k < L.length) : (part L k)[k]? = some (.bool false) := by
  simp only [part, List.getElem?_toArray, List.getElem?_map]
  rw [List.getElem?_append_right (by simp; omega), List.length_take, List.getElem?_replicate, if_pos (by omega)]
  rfl
theorem part_succ (L : List Bool) (k : Nat) (hk : k < L.length) (b : Bool) (hb : L[k] = b) : (part L k).setIfInBounds k (.bool b) = part L (k + 1) := by
  subst hb
  apply Array.ext_getElem?
  intro j
  rw [Array.getElem?_setIfInBounds]
  simp only [part, List.getElem?_toArray, List.getElem?_map, List.size_toArray, List.length_map, List.length_append, List.length_take, List.length_replicate]
  by_cases e : k = j
  · subst e
    rw [if_pos rfl, if_pos (by omega), List.getElem?_append_left (by simp; omega), List.getElem?_take_of_lt (by omega)]
    simp [hk]
  · rw [if_neg e]
    by_cases h : j < k
    · rw [List.getElem?_append_left (by simp; omega), List.getElem?_append_left (by simp; omega), List.getElem?_take_of_lt (by omega), List.getElem?_take_of_lt (by omega)]
    · rw [List.getElem?_append_right (by simp; omega), List.getElem?_append_right (by simp; omega)]
      simp only [List.length_take, List.getElem?_replicate]
      by_cases h2 : j < L.length
      · rw [if_pos (by omega), if_pos (by omega)]
      · rw [if_neg (by omega), if_neg (by omega)]
theorem part_false (L : List Bool) (k : Nat) (hk : k < L.length) (h : L[k] = false) : part L (k + 1) = part L k := by
  rw [← part_succ L k hk false h]
  apply Array.ext_getElem?
  intro j
  rw [Array.getElem?_setIfInBounds]
  by_cases e : k = j
  · subst e
    rw [if_pos rfl, part_old L k hk, if_pos (by rw [part_size L k (by omega)]; exact hk)]
  · rw [if_neg e]
theorem part_up (L : List Bool) (k : Nat) : ∀ n, k + n ≤ L.length → (∀ j (h : j < L.length), k ≤ j → j < k + n → L[j] = false) → part L (k + n) = part L k
  | 0, _, _ => rfl
  | n + 1, hk, h => by rw [← Nat.add_assoc, part_false L (k + n) (by omega) (h (k + n) (by omega) (by omega) (by omega)), part_up L k n (by omega) (fun j hj h1 h2 => h j hj h1 (by omega))]
theorem part_full (L : List Bool) : part L L.length = (L.map .bool).toArray := by simp [part]
theorem BL.of_row {w : World} {b : Nat} {L : List Bool} {t : TypeId} {n cap : Nat} (h : w.heap[b]? = some (.cells (part L L.length) t (0, 0))) (hn : n = L.length) : BL w b (.slice (some ⟨b, 0, none⟩) n cap) L := by
  refine ⟨⟨cap, by rw [hn]⟩, ?_, (Array.getElem?_eq_some_iff.1 h).1⟩
  intro j v hv
  rw [Nat.zero_add, Lib.cell_of_heap h, part_full]
  simpa using hv
theorem BL.kept {X : Nat → Prop} {w w' : World} {b : Nat} {v : Value} {l : List Bool} (h : BL w b v l) (k : Kp X w w') (hX : ¬ X b) : BL w' b v l :=
  ⟨h.eq, fun j u hu => k.cell hX (h.at' j u hu), Nat.lt_of_lt_of_le h.old k.size⟩
theorem setE_at (s : List UInt8) (set x : List Bool) (hx : x.length = s.length + 1) (k : Nat) (hk : k < s.length) : (setE s set x)[k + 1]'(by rw [Re.setE_length s set x hx]; omega) = (x[k]'(by omega) && (decide (s[k].toNat < 128) && set.getD s[k].toNat false)) := by
  simp [setE]
/-- what a call of ends leaves -/
def EndsPost (R : List Bool) (w : World) (e : Ending) (w' : World) : Prop := ∃ r b2, e = .returned r ∧ BL w' b2 r R ∧ Below w.heap.size w w'
/-- the contract of ends at a node -/
def EndsOK (k : Nat) (set : List Bool) (kids : Fo) (l m : Int) : Prop :=
  ∀ (w : World) (c : Array Value) (s : ByteArray) (b : Nat) (v : Value) (x : List Bool), Nd (fun _ => True) w k set kids l m c → BL w b v x → x.length = s.size + 1 → s.size ≤ 274877906944 →
    Calls Tryf.prog 25 #[.agg c, .string s, v] w (EndsPost (nodeE s.data.toList k set (mean s.data.toList kids) l m x) w)
theorem reC_0 (k : Int) (set : List Value) (kv : Value) (l m : Int) : (reC k set kv l m)[0]? = some (.int .i64 k) := by simp [reC]
theorem reC_at (k : Int) (set : List Value) (kv : Value) (l m : Int) (j : Nat) (h : j < set.length) : (reC k set kv l m)[1 + j]? = some set[j] := by
  rw [Nat.add_comm]
  simp [reC, List.getElem?_append_left h]
theorem reC_kv (k : Int) (set : List Value) (kv : Value) (l m : Int) (h : set.length = 128) : (reC k set kv l m)[129]? = some kv := by
  simp [reC, h]
theorem reC_l (k : Int) (set : List Value) (kv : Value) (l m : Int) (h : set.length = 128) : (reC k set kv l m)[130]? = some (.int .i64 l) := by
  simp [reC, h]
theorem reC_m (k : Int) (set : List Value) (kv : Value) (l m : Int) (h : set.length = 128) : (reC k set kv l m)[131]? = some (.int .i64 m) := by
  simp [reC, h]
theorem run_mkB1 (n : Nat) (w : World) (hn : n ≤ 274877906944) : (mkB (.int .i64 ((n : Int) + 1)) (.int .i64 ((n : Int) + 1))).run Tryf.prog w = .ok (.slice (some ⟨w.heap.size, 0, none⟩) (n + 1) (n + 1)) (w.alloc (.cells (Array.replicate (n + 1) (.bool false)) 4)) := makeBools (n + 1) (by omega) w
attribute [local go_sem ↓] mk_eq
attribute [local go_sem] run_mkB1
/-- at the switch: the node's box, the bools -/
structure En (c : Array Value) (n : Nat) (w V : World) : Prop where
  box : V.heap[w.heap.size]? = some (.cells c tRe (0, 0))
  out : V.heap[w.heap.size + 1]? = some (.cells (Array.replicate (n + 1) (.bool false)) 4 (0, 0))
  size : V.heap.size = w.heap.size + 2
  kp : Kp (fun _ => False) w V
theorem En.start (c : Array Value) (n : Nat) (w : World) : En c n w ((w.alloc (.cells c tRe)).alloc (.cells (Array.replicate (n + 1) (.bool false)) 4)) := by
  refine ⟨?_, ?_, by simp, ((Kp.refl _ _).alloc _).alloc _⟩
  · rw [Lib.alloc_old _ _ _ (by simp)]; exact heap_alloc_new w _
  · have := heap_alloc_new (w.alloc (.cells c tRe)) (.cells (Array.replicate (n + 1) (.bool false)) 4); simpa using this
theorem En.cell {c : Array Value} {n : Nat} {w V : World} (h : En c n w V) {o : Nat} {v : Value} (hc : c[o]? = some v) : V.cell? ⟨w.heap.size, o, none⟩ = some v := by
  rw [Lib.cell_of_heap h.box]; exact hc
theorem En.old {c : Array Value} {n : Nat} {w V : World} (h : En c n w V) (j : Nat) (hj : j < n + 1) : V.cell? ⟨w.heap.size + 1, j, none⟩ = some (.bool false) := by
  rw [Lib.cell_of_heap h.out]; simp [hj]
theorem En.part {c : Array Value} {n : Nat} {w V : World} (h : En c n w V) (L : List Bool) (hL : L.length = n + 1) : V.heap[w.heap.size + 1]? = some (.cells (part L 0) 4 (0, 0)) := by
  rw [part_zero, hL]; exact h.out
theorem EndsPost.of_row {c : Array Value} {n : Nat} {w V V' : World} {L : List Bool} {m cap : Nat} (h : En c n w V) (hk : Kp (fun x => x = w.heap.size + 1) V V') (hr : V'.heap[w.heap.size + 1]? = some (.cells (Go.Proofs.YtonifkkdokaooaaFmt.part L L.length) 4 (0, 0))) (hm : m = L.length) :
    EndsPost L w (.returned (.slice (some ⟨w.heap.size + 1, 0, none⟩) m cap)) V' :=
  ⟨_, w.heap.size + 1, rfl, BL.of_row hr hm, (h.kp.false_mono.trans hk : Kp (fun x => x = w.heap.size + 1) w V').below (Nat.le_refl _) (fun k hk => by show ¬ k = w.heap.size + 1; omega)⟩
theorem begE_length (n : Nat) (x : List Bool) : (begE n x).length = n + 1 := by simp [begE, falses]
theorem finE_length (n : Nat) (x : List Bool) : (finE n x).length = n + 1 := by simp [finE, falses]
set_option maxHeartbeats 1000000 in
set_option maxRecDepth 100000 in
theorem ends_beg (set : List Bool) (kids : Fo) (l m : Int) : EndsOK 5 set kids l m := by
  intro w c s b v x hN hB hx hs
  obtain ⟨hl, kv, cs, hc, hsl, hk⟩ := hN
  have e0 : c[0]? = some (.int .i64 5) := by rw [hc]; exact reC_0 _ _ _ _ _
  have hE := Lib.hid (En.start c s.size w)
  obtain ⟨⟨cp, rfl⟩, h1, h2⟩ := hB
  clear hsl hk hc
  go_enter Tryf.func25, Tryf.ntmps25
  go_upto_region 2 with fail
  obtain ⟨V, hV⟩ : ∃ V, (w.alloc (.cells c tRe)).alloc (.cells (Array.replicate (s.size + 1) (.bool false)) 4) = V := ⟨_, rfl⟩
  rw [hV] at hE
  rw [hV]
  clear hV
  have b0 := hE.out.cell e0
  have g0 : 0 < x.length := by omega
  have g1 := hE.out.kp.cell id (range_bl h1 0 g0)
  have g2 := hE.out.old 0 (by omega)
  have g3 : V.frozen? ⟨w.heap.size + 1, 0, none⟩ = false := Lib.frozen_of_heap hE.out.out 0
  have i0 : (0 : Int) < (x.length : Int) := by omega
  have i1 : (0 : Int) < (s.size : Int) + 1 := by omega
  go_wp2
  go_ret
  have e : nodeE s.data.toList 5 set (mean s.data.toList kids) l m x = begE s.size x := by
    show begE s.data.toList.length x = _
    rw [Pat.size_toList]
  rw [e]
  have hL := begE_length s.size x
  have h1L : part (begE s.size x) (1 + s.size) = part (begE s.size x) 1 := part_up _ 1 s.size (by omega) (fun j hj h1 _ => by
    obtain ⟨j, rfl⟩ : ∃ q, j = q + 1 := ⟨j - 1, by omega⟩
    simp [begE, falses])
  refine EndsPost.of_row hE.out (Kp.setCell (X := fun x => x = w.heap.size + 1) (p := ⟨w.heap.size + 1, 0, none⟩) (Kp.refl _ V) (.inl rfl) _) ?_ hL.symm
  rw [heap_setCell_row (hE.out.part (begE s.size x) hL), part_succ _ 0 (by omega) x[0] (by simp [begE, g0]), hL, Nat.add_comm s.size 1, h1L]
set_option maxHeartbeats 1000000 in
set_option maxRecDepth 100000 in
theorem ends_fin (set : List Bool) (kids : Fo) (l m : Int) : EndsOK 6 set kids l m := by
  intro w c s b v x hN hB hx hs
  obtain ⟨hl, kv, cs, hc, hsl, hk⟩ := hN
  have e0 : c[0]? = some (.int .i64 6) := by rw [hc]; exact reC_0 _ _ _ _ _
  have hE := Lib.hid (En.start c s.size w)
  obtain ⟨⟨cp, rfl⟩, h1, h2⟩ := hB
  clear hsl hk hc
  go_enter Tryf.func25, Tryf.ntmps25
  go_upto_region 2 with fail
  obtain ⟨V, hV⟩ : ∃ V, (w.alloc (.cells c tRe)).alloc (.cells (Array.replicate (s.size + 1) (.bool false)) 4) = V := ⟨_, rfl⟩
  rw [hV] at hE
  rw [hV]
  clear hV
  have b0 := hE.out.cell e0
  have g0 : s.size < x.length := by omega
  have g1 := hE.out.kp.cell id (range_bl h1 s.size g0)
  have g2 := hE.out.old s.size (by omega)
  have g3 : V.frozen? ⟨w.heap.size + 1, s.size, none⟩ = false := Lib.frozen_of_heap hE.out.out s.size
  have i0 : (s.size : Int) < (x.length : Int) := by omega
  have i1 : (s.size : Int) < (s.size : Int) + 1 := by omega
  have i2 : (0 : Int) ≤ (s.size : Int) := by omega
  go_wp2
  go_ret
  have e : nodeE s.data.toList 6 set (mean s.data.toList kids) l m x = finE s.size x := by
    show finE s.data.toList.length x = _
    rw [Pat.size_toList]
  rw [e]
  have hL := finE_length s.size x
  have h1L : part (finE s.size x) (0 + s.size) = part (finE s.size x) 0 := part_up _ 0 s.size (by omega) (fun j hj h1 h2 => by
    simp only [finE]
    rw [List.getElem_append_left (by simp [falses]; omega)]
    simp [falses])
  refine EndsPost.of_row hE.out (Kp.setCell (X := fun x => x = w.heap.size + 1) (p := ⟨w.heap.size + 1, s.size, none⟩) (Kp.refl _ V) (.inl rfl) _) ?_ hL.symm
  rw [heap_setCell_row (hE.out.part (finE s.size x) hL), ← h1L, Nat.zero_add, part_succ _ s.size (by omega) x[s.size] (by simp [finE, falses, g0]), hL]
set_option maxHeartbeats 1000000 in
set_option maxRecDepth 100000 in
theorem ends_set (set : List Bool) (kids : Fo) (l m : Int) : EndsOK 1 set kids l m := by
  intro w c s b v x hN hB hx hs
  obtain ⟨hl, kv, cs, hc, hsl, hk⟩ := hN
  have hlb : (set.map Value.bool).length = 128 := by simpa using hl
  have e0 : c[0]? = some (.int .i64 1) := by rw [hc]; exact reC_0 _ _ _ _ _
  have e1 : ∀ j (h : j < set.length), c[1 + j]? = some (.bool set[j]) := fun j h => by rw [hc, reC_at _ _ _ _ _ j (by rw [hlb]; omega)]; simp
  have hE := Lib.hid (En.start c s.size w)
  obtain ⟨⟨cp, rfl⟩, h1, h2⟩ := hB
  clear hsl hk hc
  have e : nodeE s.data.toList 1 set (mean s.data.toList kids) l m x = setE s.data.toList set x := rfl
  rw [e]
  have hsz := Pat.size_toList s
  obtain ⟨L, hLe, hL, h0, hat⟩ : ∃ L, setE s.data.toList set x = L ∧ L.length = s.size + 1 ∧ (∀ h : 0 < L.length, L[0] = false) ∧ ∀ k (hk : k < s.size) (hk2 : k < x.length) (hk3 : k + 1 < L.length), L[k + 1] = (x[k] && (decide ((s[k]).toNat < 128) && set.getD (s[k]).toNat false)) :=
    ⟨_, rfl, by rw [Re.setE_length _ _ _ (by omega), hsz], fun _ => rfl, fun k hk hk2 hk3 => by
      rw [setE_at s.data.toList set x (by omega) k (by omega)]
      rw [show s.data.toList[k]'(by omega) = s[k] from by simp [ByteArray.getElem_eq_getElem_data]]⟩
  rw [hLe]
  clear e hLe hsz
  go_enter Tryf.func25, Tryf.ntmps25
  go_upto_region 2 with fail
  obtain ⟨V, hV⟩ : ∃ V, (w.alloc (.cells c tRe)).alloc (.cells (Array.replicate (s.size + 1) (.bool false)) 4) = V := ⟨_, rfl⟩
  rw [hV] at hE
  rw [hV]
  clear hV
  have b0 := hE.out.cell e0
  have HL : Hid (V.heap[w.heap.size + 1]? = some (.cells (part L 1) 4 (0, 0))) := Lib.hid (by rw [part_false L 0 (by omega) (h0 (by omega))]; exact hE.out.part L hL)
  go_wp2
  go_loopg [8] s.size (fun g s8 wx => ∃ k : Nat, k + g = s.size ∧ s8 = .int .i64 k ∧ Kp (fun x => x = w.heap.size + 1) V wx ∧ wx.heap[w.heap.size + 1]? = some (.cells (part L (k + 1)) 4 (0, 0)))
  case atStart => exact ⟨0, by omega, rfl, Kp.refl _ _, HL.out⟩
  case round =>
    obtain ⟨k, hcg, rfl, hK, hH⟩ := hrel
    cases gk with
    | zero =>
      obtain rfl : k = s.size := by omega
      go_wp2
      go_ret
      exact EndsPost.of_row hE.out hK (by rw [hL]; exact hH) hL.symm
    | succ g =>
      have hk1 : k < s.size := by omega
      have g0 : k < x.length := by omega
      have g1 := hK.cell (by show ¬ b = w.heap.size + 1; omega) (hE.out.kp.cell id (range_bl h1 k g0))
      have g2 : wr.cell? ⟨w.heap.size + 1, k + 1, none⟩ = some (.bool false) := by
        rw [Lib.cell_of_heap hH]; exact part_old L (k + 1) (by omega)
      have g4 : wr.frozen? ⟨w.heap.size + 1, k + 1, none⟩ = false := Lib.frozen_of_heap hH (k + 1)
      have i0 : (k : Int) < (s.size : Int) := by omega
      have i1 : (k : Int) < (x.length : Int) := by omega
      have i2 : (0 : Int) ≤ (k : Int) := by omega
      have i3 : (k : Int) + 1 < (s.size : Int) + 1 := by omega
      have i4 : (0 : Int) ≤ (k : Int) + 1 := by omega
      have i5 : ((k : Int) + 1).toNat = k + 1 := by omega
      have hLk := hat k hk1 g0 (by omega)
      generalize hx1 : x[k]'g0 = xk at g1 hLk
      have fin : ∀ (z : Bool), L[k + 1]'(by omega) = z → ∃ k2 : Nat, k2 + g = s.size ∧ Value.int .i64 ((k : Int) + 1) = .int .i64 k2 ∧ Kp (fun x => x = w.heap.size + 1) V (wr.setCell ⟨w.heap.size + 1, k + 1, none⟩ (.bool z)) ∧ (wr.setCell ⟨w.heap.size + 1, k + 1, none⟩ (.bool z)).heap[w.heap.size + 1]? = some (.cells (part L (k2 + 1)) 4 (0, 0)) :=
        fun z hz => ⟨k + 1, by omega, rfl, hK.setCell (.inl rfl) _, by rw [heap_setCell_row hH, part_succ L (k + 1) (by omega) z hz]⟩
      have FI := Lib.hid fin
      clear fin
      cases xk with
      | false =>
        go_wp2
        go_roundg g
        case measure => omega
        case rel => exact FI.out _ (by rw [hLk]; rfl)
      | true =>
        have hb0 : (s[k]).toNat < 256 := UInt8.toNat_lt _
        by_cases hb : (s[k]).toNat < 128
        · have i6 : ((s[k]).toNat : Int) < 128 := by omega
          have i7 : (0 : Int) ≤ ((s[k]).toNat : Int) := by omega
          have g5 := hK.cell (by show ¬ w.heap.size = w.heap.size + 1; omega) (hE.out.cell (e1 (s[k]).toNat (by omega)))
          have hz : L[k + 1]'(by omega) = set[(s[k]).toNat]'(by omega) := by rw [hLk]; simp [hb, hl]
          generalize set[(s[k]).toNat]'(by omega) = z at g5 hz
          cases z
          all_goals
            go_wp2
            go_roundg g
            case measure => omega
            case rel => exact FI.out _ hz
        · have i6 : ¬ ((s[k]).toNat : Int) < 128 := by omega
          have hz : L[k + 1]'(by omega) = false := by rw [hLk]; simp [hb]
          clear hx
          go_wp2
          go_roundg g
          case measure => omega
          case rel => exact FI.out _ hz
end Go.Proofs.YtonifkkdokaooaaFmt
