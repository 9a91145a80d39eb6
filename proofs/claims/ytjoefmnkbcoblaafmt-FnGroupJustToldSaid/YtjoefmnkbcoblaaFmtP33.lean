/- Joined by pack.py: ImC, EnD, EnE, EnF, EnG. -/
import Derived.Test.YtjoefmnkbcoblaaFmtP24
import Derived.Test.YtjoefmnkbcoblaaFmtP32
/- Walk: impl.Regexp where groups are told: the loop. -/
namespace Go.Proofs.YtjoefmnkbcoblaaFmt
open Go.RowKit Go.Extern.Stop Go.Stop Go.Extern
set_option linter.unusedVariables false

theorem regexpM_neg {md : Md} {ent nc sho : Bool} {s : ByteArray} {gs : List (Nat × Nat)} (h : regexpM md ent nc sho s = .neg gs) : gs ≠ [] := by
  unfold regexpM at h
  split at h
  · cases h
  · cases hq : loopR md s (s.size + 1) 0 (hdr ent nc sho) [] with
    | syn => rw [hq] at h; cases h
    | done acc g2 =>
      rw [hq] at h
      simp only [rOut] at h
      split at h
      · cases h
      · cases h; assumption
theorem Kp.grown {a w w' : World} {e : TypeId} {n k : Nat} {v : Value} {xs : List Value} (h : Kp (fun _ => False) a w) (ho : w.ownsRow a.heap.size e n v k xs) (hg : w.grownBy w' v.ownBlock) : Kp (fun _ => False) a w' := by
  refine ⟨hg.os.trans h.os, hg.tape.trans h.tape, hg.output.trans h.output, Nat.le_trans h.size hg.size, fun x hx _ => ?_⟩
  rw [hg.block x (Nat.lt_of_lt_of_le hx h.size) ?_, h.block x hx id]
  intro he
  rcases ho.2 with ⟨rfl, _⟩ | ⟨g, cap, cur, rfl, hb, _⟩
  · cases he
  · have h9 : x = g := Option.some.inj he
    omega
set_option maxHeartbeats 4000000 in
set_option maxRecDepth 100000 in
theorem impl_neg (F : Interp) (s : ByteArray) (pe : Addr) (m : Int) (md : Md) (ent nc sho : Bool) (w : World) (hm : Mo m md) (hx : Mx m ent nc sho) (hp : RPre F s pe w) (hg : w.cell? ⟨gT, 0, none⟩ = some hT0) (gs : List (Nat × Nat)) (hr : regexpM md ent nc sho s = .neg gs) :
    Calls Tryf.prog 15 #[.string s, .int .u64 m] w (ImplPost (.neg gs) w) := by
  have hne := regexpM_neg hr
  have HR := regexp_walk F s pe m md ent nc sho w hm hx hp
  rw [hr] at HR
  have H := Lib.hid HR
  have HG := Lib.hid hg
  have hs42 := hp.hs
  clear HR hr hm hx hp hg
  go_enter Tryf.func15, Tryf.ntmps15
  go_wp2_with fail
  refine H.out.mono ?_
  rintro e w1 ⟨hb, p, gv, rfl, hp, hown, hlen⟩
  have hpl : p < w1.heap.size := (Array.getElem?_eq_some_iff.1 hp).1
  have hgl : gT < w.heap.size := World.block_lt_of_cell? _ _ HG.out
  obtain ⟨V, hV⟩ : ∃ V, w1.alloc (.cells #[.pointer none] 46) = V := ⟨_, rfl⟩
  have kV : Kp (fun _ => False) w1 V := by rw [← hV]; exact (Kp.refl _ _).alloc _
  have vS : V.heap.size = w1.heap.size + 1 := by rw [← hV]; simp
  have vN : V.heap[w1.heap.size]? = some (.cells #[.pointer none] 46 (0, 0)) := by rw [← hV]; exact heap_alloc_new w1 _
  have hg1 : V.cell? ⟨gT, 0, none⟩ = some hT0 := kV.cell id ((Kp.of_below (X := fun _ => False) hb).cell id HG.out)
  have HA := Lib.hid (as_hit ⟨p, 0, none⟩ ⟨w1.heap.size, 0, none⟩ (.pointer none) V hg1 (by rw [Lib.cell_of_heap vN]; rfl) (Lib.frozen_of_heap vN 0))
  obtain ⟨q, cap, rfl, hqB, hql, hqc⟩ := own_cells hown hne
  have HB := Lib.hid hb
  have HP := Lib.hid hp
  have HQ := Lib.hid hqc
  clear hb H hown HG hgl hp hqc
  go_wp2_with fail
  refine HA.out.mono ?_
  rintro e w2 ⟨rfl, hw2⟩
  have k2 : Kp (· = w1.heap.size) V w2 := by
    rw [hw2]
    exact Kp.setCell (X := (· = w1.heap.size)) (p := ⟨w1.heap.size, 0, none⟩) (((((Kp.refl _ _).alloc _).alloc _).alloc _).alloc _) (.inl rfl) _
  have cN : w2.cell? ⟨w1.heap.size, 0, none⟩ = some (.pointer (some ⟨p, 0, none⟩)) := by
    rw [hw2]
    have h4 : ((((V.alloc (.cells #[.pointer (some ⟨w1.heap.size, 0, none⟩)] tNN)).alloc (.cells #[.pointer (some ⟨nG, tNN, none⟩), .pointer (some ⟨V.heap.size, 0, none⟩), .int .u64 150] tVal)).alloc (.cells #[.pointer (some ⟨nG, tNN, none⟩), .pointer (some ⟨V.heap.size, 0, none⟩), .int .u64 150] tVal)).alloc (.cells #[.pointer (some ⟨p, 0, none⟩)] tN)).heap[w1.heap.size]? = some (.cells #[.pointer none] 46 (0, 0)) :=
      Kp.heap (X := fun _ => False) ((((Kp.refl _ V).alloc _).alloc _).alloc _ |>.alloc _) id vN
    rw [Lib.cell_of_heap (heap_setCell_row h4)]; rfl
  have hne1 : p ≠ w1.heap.size := by omega
  have cP : w2.cell? ⟨p, 0, none⟩ = some (.slice (some ⟨q, 0, none⟩) gs.length cap) := by
    rw [Lib.cell_of_heap (k2.heap (by show ¬ p = w1.heap.size; omega) (kV.heap id HP.out))]; rfl
  have HQ2 : Hid (∀ k (hk : k < gs.length), w2.cell? ⟨q, k * 2, none⟩ = some (.int .i64 (gs[k].1 : Int)) ∧ w2.cell? ⟨q, k * 2 + 1, none⟩ = some (.int .i64 (gs[k].2 : Int))) :=
    Lib.hid fun k hk => ⟨k2.cell (by show ¬ q = w1.heap.size; omega) (kV.cell id (HQ.out k hk).1), k2.cell (by show ¬ q = w1.heap.size; omega) (kV.cell id (HQ.out k hk).2)⟩
  have HW : Hid (Below w.heap.size w w2) := Lib.hid (HB.out.trans ((kV.false_mono.trans k2 : Kp (· = w1.heap.size) w1 w2).below HB.out.size (fun k hk => by have := HB.out.size; show ¬ k = w1.heap.size; omega)))
  have q2 : q < w2.heap.size := by have := k2.size; omega
  clear HA k2 hw2 vN kV hg1 HQ HP HB hV vS
  go_upto_region 8 with fail
  obtain ⟨W4, hW4⟩ : ∃ W4, w2.alloc (.cells #[] tIG) = W4 := ⟨_, rfl⟩
  have k4 : Kp (fun _ => False) w2 W4 := by rw [← hW4]; exact (Kp.refl _ _).alloc _
  have o4 : W4.ownsRow w2.heap.size tIG 2 (.slice (some ⟨w2.heap.size, 0, none⟩) 0 0) 0 [] := by rw [← hW4]; exact own_empty w2 w2 (Nat.le_refl _)
  have K4 := Lib.hid k4
  have O4 := Lib.hid o4
  have cN4 := k4.cell id cN
  have cP4 := k4.cell id cP
  rw [hW4]
  clear hW4 k4 o4 cN cP
  obtain ⟨i0, hi0, hz0, hz1, hz2⟩ := info_parts infoIG
  go_wp2
  go_loopg [10, 34] gs.length (fun g s10 s34 wx => ∃ k : Nat, k + g = gs.length ∧ s34 = .int .i64 k ∧ wx.ownsRow w2.heap.size tIG 2 s10 k (grCells (gs.take k)) ∧ Kp (fun _ => False) w2 wx)
  case atStart => exact ⟨0, by omega, rfl, O4.out, K4.out⟩
  case round =>
    obtain ⟨k, hkg, rfl, hO, hK⟩ := hrel
    cases gk with
    | zero =>
      obtain rfl : k = gs.length := by omega
      have HO := Lib.hid hO
      have HK := Lib.hid hK
      clear hO hK
      go_wp2
      go_ret3
      exact ⟨HW.out.trans ((Kp.below HK.out (Nat.le_refl _) (fun _ _ => id)).mono HW.out.size), _, rfl, by
        have := ownsRow.le HO.out HW.out.size
        rwa [List.take_of_length_le (Nat.le_refl _)] at this⟩
    | succ g =>
      have hk : k < gs.length := by omega
      have c0 := hK.cell id (HQ2.out k hk).1
      have c1 := hK.cell id (HQ2.out k hk).2
      have i0' : (k : Int) < (gs.length : Int) := by omega
      have i1 : (0 : Int) ≤ (k : Int) := by omega
      have HO := Lib.hid hO
      have HK := Lib.hid hK
      clear hO hK
      have hks := HK.out.size
      have hgk : grCells (gs.take (k + 1)) = grCells (gs.take k) ++ [.int .i64 (gs[k].1 : Int), .int .i64 (gs[k].2 : Int)] := by
        rw [List.take_add_one, List.getElem?_eq_getElem hk]; exact grCells_snoc _ _
      have HGK := Lib.hid hgk
      clear hgk
      generalize (gs[k].1 : Int) = ga at *
      generalize (gs[k].2 : Int) = gb at *
      go_wp2_with (at_builtin; refine wpList_append_own _ rfl _ _ 23 rfl w2.heap.size tIG i0 (.agg #[.int .i64 0, .int .i64 0]) 2 16 Tryf.underlying23 hi0 hz0 hz1 hz2 rfl (by decide) _ k _ rfl ((HO.out.alloc _).alloc _) ⟨wr.heap.size + 1, 0, none⟩ 1 1 [.int .i64 ga, .int .i64 gb] rfl rfl ?c1 ?c2 ?c3 ?c4 ?c5 ?_)
      case c1 =>
        have hn : ((wr.alloc (.cells #[.int .i64 ga, .int .i64 gb] tG)).alloc (.cells #[.int .i64 ga, .int .i64 gb] tIG)).heap[wr.heap.size + 1]? = some (.cells #[.int .i64 ga, .int .i64 gb] tIG (0, 0)) := by
          have := heap_alloc_new (wr.alloc (.cells #[.int .i64 ga, .int .i64 gb] tG)) (.cells #[.int .i64 ga, .int .i64 gb] tIG)
          simpa using this
        intro j u hu
        match j, hu with
        | 0, hu => simp at hu; subst hu; exact (Lib.cell_of_heap hn _).trans rfl
        | 1, hu => simp at hu; subst hu; exact (Lib.cell_of_heap hn _).trans rfl
      case c2 => simp [Value.oneCell']
      case c3 => unfold maxLen; omega
      case c4 => omega
      case c5 => simp; omega
      intro v' w6 hown' hgrow hnn
      have HR : Hid (∃ k2 : Nat, k2 + g = gs.length ∧ Value.int .i64 ((k : Int) + 1) = .int .i64 k2 ∧ w6.ownsRow w2.heap.size tIG 2 v' k2 (grCells (gs.take k2)) ∧ Kp (fun _ => False) w2 w6) :=
        Lib.hid ⟨k + 1, by omega, rfl, by rw [HGK.out]; exact hown', ((HK.out.alloc _).alloc _).grown ((HO.out.alloc _).alloc _) hgrow⟩
      clear hown' hgrow hnn HO HK HGK
      go_wp2_with fail
      go_roundg g
      case measure => omega
      case rel => exact HR.out
end Go.Proofs.YtjoefmnkbcoblaaFmt

/- Walk: ends: its contract; the nodes without kids. -/
namespace Go.Proofs.YtjoefmnkbcoblaaFmt
open Go.RowKit
open Re (Fo nodeE mean setE begE finE falses)
set_option linter.unusedVariables false

/-- the first k places of a list, and none behind them -/
def part (L : List Bool) (k : Nat) : Array Value := ((L.take k ++ List.replicate (L.length - k) false).map .bool).toArray
theorem part_zero (L : List Bool) : part L 0 = Array.replicate L.length (.bool false) := by
  apply Array.ext'
  simp [part]
theorem part_size (L : List Bool) (k : Nat) (hk : k ≤ L.length) : (part L k).size = L.length := by simp [part]; omega
theorem part_old (L : List Bool) (k : Nat) (hk : k < L.length) : (part L k)[k]? = some (.bool false) := by
  simp only [part, List.getElem?_toArray, List.getElem?_map]
  rw [List.getElem?_append_right (by simp; omega), List.length_take, List.getElem?_replicate, if_pos (by omega)]
  rfl
theorem part_succ (L : List Bool) (k : Nat) (hk : k < L.length) (b : Bool) (hb : L[k] = b) : (part L k).setIfInBounds k (.bool b) = part L (k + 1) := by
  subst hb
  apply Array.ext_getElem?
  intro j
  rw [Array.getElem?_setIfInBounds]
  simp only [part, List.getElem?_toArray, List.getElem?_map, List.size_toArray, List.length_map, List.length_append, List.length_take, List.length_replicate]
  by_cases e : k = j
  · subst e
    rw [if_pos rfl, if_pos (by omega), List.getElem?_append_left (by simp; omega), List.getElem?_take_of_lt (by omega)]
    simp [hk]
  · rw [if_neg e]
    by_cases h : j < k
    · rw [List.getElem?_append_left (by simp; omega), List.getElem?_append_left (by simp; omega), List.getElem?_take_of_lt (by omega), List.getElem?_take_of_lt (by omega)]
    · rw [List.getElem?_append_right (by simp; omega), List.getElem?_append_right (by simp; omega)]
      simp only [List.length_take, List.getElem?_replicate]
      by_cases h2 : j < L.length
      · rw [if_pos (by omega), if_pos (by omega)]
      · rw [if_neg (by omega), if_neg (by omega)]
theorem part_false (L : List Bool) (k : Nat) (hk : k < L.length) (h : L[k] = false) : part L (k + 1) = part L k := by
  rw [← part_succ L k hk false h]
  apply Array.ext_getElem?
  intro j
  rw [Array.getElem?_setIfInBounds]
  by_cases e : k = j
  · subst e
    rw [if_pos rfl, part_old L k hk, if_pos (by rw [part_size L k (by omega)]; exact hk)]
  · rw [if_neg e]
theorem part_up (L : List Bool) (k : Nat) : ∀ n, k + n ≤ L.length → (∀ j (h : j < L.length), k ≤ j → j < k + n → L[j] = false) → part L (k + n) = part L k
  | 0, _, _ => rfl
  | n + 1, hk, h => by rw [← Nat.add_assoc, part_false L (k + n) (by omega) (h (k + n) (by omega) (by omega) (by omega)), part_up L k n (by omega) (fun j hj h1 h2 => h j hj h1 (by omega))]
theorem part_full (L : List Bool) : part L L.length = (L.map .bool).toArray := by simp [part]
theorem BL.of_row {w : World} {b : Nat} {L : List Bool} {t : TypeId} {n cap : Nat} (h : w.heap[b]? = some (.cells (part L L.length) t (0, 0))) (hn : n = L.length) : BL w b (.slice (some ⟨b, 0, none⟩) n cap) L := by
  refine ⟨⟨cap, by rw [hn]⟩, ?_, (Array.getElem?_eq_some_iff.1 h).1⟩
  intro j v hv
  rw [Nat.zero_add, Lib.cell_of_heap h, part_full]
  simpa using hv
theorem BL.kept {X : Nat → Prop} {w w' : World} {b : Nat} {v : Value} {l : List Bool} (h : BL w b v l) (k : Kp X w w') (hX : ¬ X b) : BL w' b v l :=
  ⟨h.eq, fun j u hu => k.cell hX (h.at' j u hu), Nat.lt_of_lt_of_le h.old k.size⟩
theorem setE_at (s : List UInt8) (set x : List Bool) (hx : x.length = s.length + 1) (k : Nat) (hk : k < s.length) : (setE s set x)[k + 1]'(by rw [Re.setE_length s set x hx]; omega) = (x[k]'(by omega) && (decide (s[k].toNat < 128) && set.getD s[k].toNat false)) := by
  simp [setE]
/-- what a call of ends leaves -/
def EndsPost (R : List Bool) (w : World) (e : Ending) (w' : World) : Prop := ∃ r b2, e = .returned r ∧ BL w' b2 r R ∧ Below w.heap.size w w'
/-- the contract of ends at a node -/
def EndsOK (k : Nat) (set : List Bool) (kids : Fo) (l m : Int) : Prop :=
  ∀ (w : World) (c : Array Value) (s : ByteArray) (b : Nat) (v : Value) (x : List Bool), Nd (fun _ => True) w k set kids l m c → BL w b v x → x.length = s.size + 1 → s.size ≤ 274877906944 →
    Calls Tryf.prog 25 #[.agg c, .string s, v] w (EndsPost (nodeE s.data.toList k set (mean s.data.toList kids) l m x) w)
theorem reC_0 (k : Int) (set : List Value) (kv : Value) (l m : Int) : (reC k set kv l m)[0]? = some (.int .i64 k) := by simp [reC]
theorem reC_at (k : Int) (set : List Value) (kv : Value) (l m : Int) (j : Nat) (h : j < set.length) : (reC k set kv l m)[1 + j]? = some set[j] := by
  rw [Nat.add_comm]
  simp [reC, List.getElem?_append_left h]
theorem reC_kv (k : Int) (set : List Value) (kv : Value) (l m : Int) (h : set.length = 128) : (reC k set kv l m)[129]? = some kv := by
  simp [reC, h]
theorem reC_l (k : Int) (set : List Value) (kv : Value) (l m : Int) (h : set.length = 128) : (reC k set kv l m)[130]? = some (.int .i64 l) := by
  simp [reC, h]
theorem reC_m (k : Int) (set : List Value) (kv : Value) (l m : Int) (h : set.length = 128) : (reC k set kv l m)[131]? = some (.int .i64 m) := by
  simp [reC, h]
theorem run_mkB1 (n : Nat) (w : World) (hn : n ≤ 274877906944) : (mkB (.int .i64 ((n : Int) + 1)) (.int .i64 ((n : Int) + 1))).run Tryf.prog w = .ok (.slice (some ⟨w.heap.size, 0, none⟩) (n + 1) (n + 1)) (w.alloc (.cells (Array.replicate (n + 1) (.bool false)) 4)) := makeBools (n + 1) (by omega) w
attribute [local go_sem ↓] mk_eq
attribute [local go_sem] run_mkB1
/-- at the switch: the node's box, the bools -/
structure En (c : Array Value) (n : Nat) (w V : World) : Prop where
  box : V.heap[w.heap.size]? = some (.cells c tRe (0, 0))
  out : V.heap[w.heap.size + 1]? = some (.cells (Array.replicate (n + 1) (.bool false)) 4 (0, 0))
  size : V.heap.size = w.heap.size + 2
  kp : Kp (fun _ => False) w V
theorem En.start (c : Array Value) (n : Nat) (w : World) : En c n w ((w.alloc (.cells c tRe)).alloc (.cells (Array.replicate (n + 1) (.bool false)) 4)) := by
  refine ⟨?_, ?_, by simp, ((Kp.refl _ _).alloc _).alloc _⟩
  · rw [Lib.alloc_old _ _ _ (by simp)]; exact heap_alloc_new w _
  · have := heap_alloc_new (w.alloc (.cells c tRe)) (.cells (Array.replicate (n + 1) (.bool false)) 4); simpa using this
theorem En.cell {c : Array Value} {n : Nat} {w V : World} (h : En c n w V) {o : Nat} {v : Value} (hc : c[o]? = some v) : V.cell? ⟨w.heap.size, o, none⟩ = some v := by
  rw [Lib.cell_of_heap h.box]; exact hc
theorem En.old {c : Array Value} {n : Nat} {w V : World} (h : En c n w V) (j : Nat) (hj : j < n + 1) : V.cell? ⟨w.heap.size + 1, j, none⟩ = some (.bool false) := by
  rw [Lib.cell_of_heap h.out]; simp [hj]
theorem En.part {c : Array Value} {n : Nat} {w V : World} (h : En c n w V) (L : List Bool) (hL : L.length = n + 1) : V.heap[w.heap.size + 1]? = some (.cells (part L 0) 4 (0, 0)) := by
  rw [part_zero, hL]; exact h.out
theorem EndsPost.of_row {c : Array Value} {n : Nat} {w V V' : World} {L : List Bool} {m cap : Nat} (h : En c n w V) (hk : Kp (fun x => x = w.heap.size + 1) V V') (hr : V'.heap[w.heap.size + 1]? = some (.cells (Go.Proofs.YtjoefmnkbcoblaaFmt.part L L.length) 4 (0, 0))) (hm : m = L.length) :
    EndsPost L w (.returned (.slice (some ⟨w.heap.size + 1, 0, none⟩) m cap)) V' :=
  ⟨_, w.heap.size + 1, rfl, BL.of_row hr hm, (h.kp.false_mono.trans hk : Kp (fun x => x = w.heap.size + 1) w V').below (Nat.le_refl _) (fun k hk => by show ¬ k = w.heap.size + 1; omega)⟩
theorem begE_length (n : Nat) (x : List Bool) : (begE n x).length = n + 1 := by simp [begE, falses]
theorem finE_length (n : Nat) (x : List Bool) : (finE n x).length = n + 1 := by simp [finE, falses]
set_option maxHeartbeats 1000000 in
set_option maxRecDepth 100000 in
theorem ends_beg (set : List Bool) (kids : Fo) (l m : Int) : EndsOK 5 set kids l m := by
  intro w c s b v x hN hB hx hs
  obtain ⟨hl, kv, cs, hc, hsl, hk⟩ := hN
  have e0 : c[0]? = some (.int .i64 5) := by rw [hc]; exact reC_0 _ _ _ _ _
  have hE := Lib.hid (En.start c s.size w)
  obtain ⟨⟨cp, rfl⟩, h1, h2⟩ := hB
  clear hsl hk hc
  go_enter Tryf.func25, Tryf.ntmps25
  go_upto_region 2 with fail
  obtain ⟨V, hV⟩ : ∃ V, (w.alloc (.cells c tRe)).alloc (.cells (Array.replicate (s.size + 1) (.bool false)) 4) = V := ⟨_, rfl⟩
  rw [hV] at hE
  rw [hV]
  clear hV
  have b0 := hE.out.cell e0
  have g0 : 0 < x.length := by omega
  have g1 := hE.out.kp.cell id (range_bl h1 0 g0)
  have g2 := hE.out.old 0 (by omega)
  have g3 : V.frozen? ⟨w.heap.size + 1, 0, none⟩ = false := Lib.frozen_of_heap hE.out.out 0
  have i0 : (0 : Int) < (x.length : Int) := by omega
  have i1 : (0 : Int) < (s.size : Int) + 1 := by omega
  go_wp2
  go_ret
  have e : nodeE s.data.toList 5 set (mean s.data.toList kids) l m x = begE s.size x := by
    show begE s.data.toList.length x = _
    rw [Pat.size_toList]
  rw [e]
  have hL := begE_length s.size x
  have h1L : part (begE s.size x) (1 + s.size) = part (begE s.size x) 1 := part_up _ 1 s.size (by omega) (fun j hj h1 _ => by
    obtain ⟨j, rfl⟩ : ∃ q, j = q + 1 := ⟨j - 1, by omega⟩
    simp [begE, falses])
  refine EndsPost.of_row hE.out (Kp.setCell (X := fun x => x = w.heap.size + 1) (p := ⟨w.heap.size + 1, 0, none⟩) (Kp.refl _ V) (.inl rfl) _) ?_ hL.symm
  rw [heap_setCell_row (hE.out.part (begE s.size x) hL), part_succ _ 0 (by omega) x[0] (by simp [begE, g0]), hL, Nat.add_comm s.size 1, h1L]
set_option maxHeartbeats 1000000 in
set_option maxRecDepth 100000 in
theorem ends_fin (set : List Bool) (kids : Fo) (l m : Int) : EndsOK 6 set kids l m := by
  intro w c s b v x hN hB hx hs
  obtain ⟨hl, kv, cs, hc, hsl, hk⟩ := hN
  have e0 : c[0]? = some (.int .i64 6) := by rw [hc]; exact reC_0 _ _ _ _ _
  have hE := Lib.hid (En.start c s.size w)
  obtain ⟨⟨cp, rfl⟩, h1, h2⟩ := hB
  clear hsl hk hc
  go_enter Tryf.func25, Tryf.ntmps25
  go_upto_region 2 with fail
  obtain ⟨V, hV⟩ : ∃ V, (w.alloc (.cells c tRe)).alloc (.cells (Array.replicate (s.size + 1) (.bool false)) 4) = V := ⟨_, rfl⟩
  rw [hV] at hE
  rw [hV]
  clear hV
  have b0 := hE.out.cell e0
  have g0 : s.size < x.length := by omega
  have g1 := hE.out.kp.cell id (range_bl h1 s.size g0)
  have g2 := hE.out.old s.size (by omega)
  have g3 : V.frozen? ⟨w.heap.size + 1, s.size, none⟩ = false := Lib.frozen_of_heap hE.out.out s.size
  have i0 : (s.size : Int) < (x.length : Int) := by omega
  have i1 : (s.size : Int) < (s.size : Int) + 1 := by omega
  have i2 : (0 : Int) ≤ (s.size : Int) := by omega
  go_wp2
  go_ret
  have e : nodeE s.data.toList 6 set (mean s.data.toList kids) l m x = finE s.size x := by
    show finE s.data.toList.length x = _
    rw [Pat.size_toList]
  rw [e]
  have hL := finE_length s.size x
  have h1L : part (finE s.size x) (0 + s.size) = part (finE s.size x) 0 := part_up _ 0 s.size (by omega) (fun j hj h1 h2 => by
    simp only [finE]
    rw [List.getElem_append_left (by simp [falses]; omega)]
    simp [falses])
  refine EndsPost.of_row hE.out (Kp.setCell (X := fun x => x = w.heap.size + 1) (p := ⟨w.heap.size + 1, s.size, none⟩) (Kp.refl _ V) (.inl rfl) _) ?_ hL.symm
  rw [heap_setCell_row (hE.out.part (finE s.size x) hL), ← h1L, Nat.zero_add, part_succ _ s.size (by omega) x[s.size] (by simp [finE, falses, g0]), hL]
set_option maxHeartbeats 1000000 in
set_option maxRecDepth 100000 in
theorem ends_set (set : List Bool) (kids : Fo) (l m : Int) : EndsOK 1 set kids l m := by
  intro w c s b v x hN hB hx hs
  obtain ⟨hl, kv, cs, hc, hsl, hk⟩ := hN
  have hlb : (set.map Value.bool).length = 128 := by simpa using hl
  have e0 : c[0]? = some (.int .i64 1) := by rw [hc]; exact reC_0 _ _ _ _ _
  have e1 : ∀ j (h : j < set.length), c[1 + j]? = some (.bool set[j]) := fun j h => by rw [hc, reC_at _ _ _ _ _ j (by rw [hlb]; omega)]; simp
  have hE := Lib.hid (En.start c s.size w)
  obtain ⟨⟨cp, rfl⟩, h1, h2⟩ := hB
  clear hsl hk hc
  have e : nodeE s.data.toList 1 set (mean s.data.toList kids) l m x = setE s.data.toList set x := rfl
  rw [e]
  have hsz := Pat.size_toList s
  obtain ⟨L, hLe, hL, h0, hat⟩ : ∃ L, setE s.data.toList set x = L ∧ L.length = s.size + 1 ∧ (∀ h : 0 < L.length, L[0] = false) ∧ ∀ k (hk : k < s.size) (hk2 : k < x.length) (hk3 : k + 1 < L.length), L[k + 1] = (x[k] && (decide ((s[k]).toNat < 128) && set.getD (s[k]).toNat false)) :=
    ⟨_, rfl, by rw [Re.setE_length _ _ _ (by omega), hsz], fun _ => rfl, fun k hk hk2 hk3 => by
      rw [setE_at s.data.toList set x (by omega) k (by omega)]
      rw [show s.data.toList[k]'(by omega) = s[k] from by simp [ByteArray.getElem_eq_getElem_data]]⟩
  rw [hLe]
  clear e hLe hsz
  go_enter Tryf.func25, Tryf.ntmps25
  go_upto_region 2 with fail
  obtain ⟨V, hV⟩ : ∃ V, (w.alloc (.cells c tRe)).alloc (.cells (Array.replicate (s.size + 1) (.bool false)) 4) = V := ⟨_, rfl⟩
  rw [hV] at hE
  rw [hV]
  clear hV
  have b0 := hE.out.cell e0
  have HL : Hid (V.heap[w.heap.size + 1]? = some (.cells (part L 1) 4 (0, 0))) := Lib.hid (by rw [part_false L 0 (by omega) (h0 (by omega))]; exact hE.out.part L hL)
  go_wp2
  go_loopg [8] s.size (fun g s8 wx => ∃ k : Nat, k + g = s.size ∧ s8 = .int .i64 k ∧ Kp (fun x => x = w.heap.size + 1) V wx ∧ wx.heap[w.heap.size + 1]? = some (.cells (part L (k + 1)) 4 (0, 0)))
  case atStart => exact ⟨0, by omega, rfl, Kp.refl _ _, HL.out⟩
  case round =>
    obtain ⟨k, hcg, rfl, hK, hH⟩ := hrel
    cases gk with
    | zero =>
      obtain rfl : k = s.size := by omega
      go_wp2
      go_ret
      exact EndsPost.of_row hE.out hK (by rw [hL]; exact hH) hL.symm
    | succ g =>
      have hk1 : k < s.size := by omega
      have g0 : k < x.length := by omega
      have g1 := hK.cell (by show ¬ b = w.heap.size + 1; omega) (hE.out.kp.cell id (range_bl h1 k g0))
      have g2 : wr.cell? ⟨w.heap.size + 1, k + 1, none⟩ = some (.bool false) := by
        rw [Lib.cell_of_heap hH]; exact part_old L (k + 1) (by omega)
      have g4 : wr.frozen? ⟨w.heap.size + 1, k + 1, none⟩ = false := Lib.frozen_of_heap hH (k + 1)
      have i0 : (k : Int) < (s.size : Int) := by omega
      have i1 : (k : Int) < (x.length : Int) := by omega
      have i2 : (0 : Int) ≤ (k : Int) := by omega
      have i3 : (k : Int) + 1 < (s.size : Int) + 1 := by omega
      have i4 : (0 : Int) ≤ (k : Int) + 1 := by omega
      have i5 : ((k : Int) + 1).toNat = k + 1 := by omega
      have hLk := hat k hk1 g0 (by omega)
      generalize hx1 : x[k]'g0 = xk at g1 hLk
      have fin : ∀ (z : Bool), L[k + 1]'(by omega) = z → ∃ k2 : Nat, k2 + g = s.size ∧ Value.int .i64 ((k : Int) + 1) = .int .i64 k2 ∧ Kp (fun x => x = w.heap.size + 1) V (wr.setCell ⟨w.heap.size + 1, k + 1, none⟩ (.bool z)) ∧ (wr.setCell ⟨w.heap.size + 1, k + 1, none⟩ (.bool z)).heap[w.heap.size + 1]? = some (.cells (part L (k2 + 1)) 4 (0, 0)) :=
        fun z hz => ⟨k + 1, by omega, rfl, hK.setCell (.inl rfl) _, by rw [heap_setCell_row hH, part_succ L (k + 1) (by omega) z hz]⟩
      have FI := Lib.hid fin
      clear fin
      cases xk with
      | false =>
        go_wp2
        go_roundg g
        case measure => omega
        case rel => exact FI.out _ (by rw [hLk]; rfl)
      | true =>
        have hb0 : (s[k]).toNat < 256 := UInt8.toNat_lt _
        by_cases hb : (s[k]).toNat < 128
        · have i6 : ((s[k]).toNat : Int) < 128 := by omega
          have i7 : (0 : Int) ≤ ((s[k]).toNat : Int) := by omega
          have g5 := hK.cell (by show ¬ w.heap.size = w.heap.size + 1; omega) (hE.out.cell (e1 (s[k]).toNat (by omega)))
          have hz : L[k + 1]'(by omega) = set[(s[k]).toNat]'(by omega) := by rw [hLk]; simp [hb, hl]
          generalize set[(s[k]).toNat]'(by omega) = z at g5 hz
          cases z
          all_goals
            go_wp2
            go_roundg g
            case measure => omega
            case rel => exact FI.out _ hz
        · have i6 : ¬ ((s[k]).toNat : Int) < 128 := by omega
          have hz : L[k + 1]'(by omega) = false := by rw [hLk]; simp [hb]
          clear hx
          go_wp2
          go_roundg g
          case measure => omega
          case rel => exact FI.out _ hz
end Go.Proofs.YtjoefmnkbcoblaaFmt

/- Walk: ends: nodes one behind the other. -/
namespace Go.Proofs.YtjoefmnkbcoblaaFmt
open Go.RowKit
open Re (Fo nodeE mean setE begE finE falses)
set_option linter.unusedVariables false

/-- ends keeps its contract at each node of a forest -/
def AllOK : Fo → Prop
  | .nil => True
  | .cons k set kids l m rest => EndsOK k set kids l m ∧ AllOK rest
/-- the cells of the node that a pointer points to -/
def reAt (w : World) : Value → Array Value
  | .pointer (some ⟨g, o, none⟩) => (match w.heap[g]? with | some (.cells cur _ _) => ((cur.toList.drop o).take 132).toArray | _ => #[])
  | _ => #[]
def reOk (w : World) (v : Value) : Prop := ∃ g o cur, v = .pointer (some ⟨g, o, none⟩) ∧ w.heap[g]? = some (.cells cur tRe (0, 0)) ∧ o + 132 ≤ cur.size
theorem reAt_eq {w : World} {g o : Nat} {cur : Array Value} (h : w.heap[g]? = some (.cells cur tRe (0, 0))) : reAt w (.pointer (some ⟨g, o, none⟩)) = ((cur.toList.drop o).take 132).toArray := by simp [reAt, h]
theorem run_ldAt (w : World) (v : Value) (h : reOk w v) : (ldRe v).run Tryf.prog w = .ok (.agg (reAt w v)) w := by
  obtain ⟨g, o, cur, rfl, hg, ho⟩ := h
  rw [reAt_eq hg]
  exact run_loadAt_mid w g o tRe _ _ (fun j v hv => by
    have hj : j < 132 := by have := (List.getElem?_eq_some_iff.1 hv).1; simp at this; omega
    rw [List.getElem?_take_of_lt hj, List.getElem?_drop] at hv
    rw [Lib.cell_of_heap hg, ← Array.getElem?_toList]
    exact hv) Tryf.underlying32 rfl (by rw [sizeRe]; simp; omega)
/-- a box of a node -/
theorem box_at {w : World} {c : Array Value} (hc : c.size = 132) : reOk (w.alloc (.cells c tRe)) (.pointer (some ⟨w.heap.size, 0, none⟩)) ∧ reAt (w.alloc (.cells c tRe)) (.pointer (some ⟨w.heap.size, 0, none⟩)) = c := by
  have h := heap_alloc_new w (.cells c tRe)
  refine ⟨⟨_, 0, c, rfl, h, by omega⟩, ?_⟩
  rw [reAt_eq h, List.drop_zero, List.take_of_length_le (by simp; omega)]
theorem Sl.form {P : Nat → Prop} {w : World} {v : Value} {n : Nat} {xs : List Value} (h : Sl P w v n xs) : ∃ a cap, v = .slice a n cap := by
  rcases h.2 with ⟨rfl, rfl⟩ | ⟨g, cap, cur, rfl, _⟩
  · exact ⟨none, 0, rfl⟩
  · exact ⟨_, cap, rfl⟩
theorem Fo.len_pos {B : Fo} {g : Nat} (h : B.len = g + 1) : ∃ k set kk l m rest, B = .cons k set kk l m rest ∧ rest.len = g := by
  cases B with
  | nil => simp [Fo.len] at h
  | cons k set kk l m rest => exact ⟨k, set, kk, l, m, rest, rfl, by simp [Fo.len] at h; exact h⟩
/-- the node at a place of a row of nodes -/
theorem elem_of {P : Nat → Prop} {w : World} {kv : Value} {n i : Nat} {cs : List Value} {k : Nat} {set : List Bool} {kk : Fo} {l m : Int} {rest : Fo} (hs : Sl P w kv n cs) (hi : i < n) (hF : FoC P w (.cons k set kk l m rest) (cs.drop (i * 132))) :
    ∃ g cap cur c, kv = .slice (some ⟨g, 0, none⟩) n cap ∧ w.heap[g]? = some (.cells cur tRe (0, 0)) ∧ i * 132 + 132 ≤ cur.size ∧ ((cur.toList.drop (i * 132)).take 132).toArray = c ∧ Nd P w k set kk l m c ∧ FoC P w rest (cs.drop ((i + 1) * 132)) := by
  rcases hs.2 with ⟨_, h0⟩ | ⟨g, cap, cur, hv, _, hg, hn, _, hsz, ht⟩
  · omega
  obtain ⟨hl, kv2, cs2, ys, hx, hs2, hk2, hr⟩ := hF
  have hc : (reC k (set.map .bool) kv2 l m).toList.length = 132 := by rw [Array.length_toList, reC_size (by simpa using hl)]
  refine ⟨g, cap, cur, reC k (set.map .bool) kv2 l m, hv, hg, ?_, ?_, ⟨hl, kv2, cs2, rfl, hs2, hk2⟩, ?_⟩
  · rw [hsz]
    have : (i + 1) * 132 ≤ cap * 132 := Nat.mul_le_mul_right _ (by omega)
    omega
  · have e1 : (cs.drop (i * 132)).take 132 = (reC k (set.map .bool) kv2 l m).toList := by rw [hx, ← hc, List.take_left]
    have e2 : (cs.drop (i * 132)).take 132 = (cur.toList.drop (i * 132)).take 132 := by
      rw [← ht, List.drop_take, List.take_take]
      congr 1
      have : (i + 1) * 132 ≤ n * 132 := Nat.mul_le_mul_right _ (by omega)
      omega
    rw [← e2, e1]
  · have e : (i + 1) * 132 = i * 132 + 132 := by omega
    rw [e, ← List.drop_drop, hx, ← hc, List.drop_left]
    exact hr
theorem Sl.le {P : Nat → Prop} {w : World} {v : Value} {n : Nat} {xs : List Value} (h : Sl P w v n xs) : n ≤ 9223372036854775807 := by
  rcases h.2 with ⟨_, rfl⟩ | ⟨g, cap, cur, _, _, _, h1, h2, _⟩
  · omega
  · unfold maxLen at h2; omega
theorem mean_seq_cons (s : List UInt8) (k : Nat) (set : List Bool) (kids : Fo) (l m : Int) (rest : Fo) (x : List Bool) : (mean s (.cons k set kids l m rest)).seq x = (mean s rest).seq (nodeE s k set (mean s kids) l m x) := rfl
theorem mean_alt_cons (s : List UInt8) (k : Nat) (set : List Bool) (kids : Fo) (l m : Int) (rest : Fo) (acc x : List Bool) : (mean s (.cons k set kids l m rest)).alt acc x = (mean s rest).alt (Re.bOr acc (nodeE s k set (mean s kids) l m x)) x := rfl
theorem nodeE_len (s : ByteArray) (k : Nat) (set : List Bool) (kids : Fo) (l m : Int) (x : List Bool) (hx : x.length = s.size + 1) : (nodeE s.data.toList k set (mean s.data.toList kids) l m x).length = s.size + 1 := by
  have h := Re.mean_length s.data.toList kids
  have hs := Pat.size_toList s
  rw [Re.nodeE_length s.data.toList k set _ l m h.1 h.2.1 h.2.2 x (by omega), hs]
attribute [local go_sem ↓] mk_eq ld_eq st_eq
attribute [local go_sem] run_mkB1 run_ldAt run_stRe
set_option maxHeartbeats 2000000 in
set_option maxRecDepth 100000 in
theorem ends_seq (set : List Bool) (kids : Fo) (l m : Int) (hA : AllOK kids) : EndsOK 2 set kids l m := by
  intro w c s b v x hN hB hx hs
  obtain ⟨hl, kv, cs, hc, hsl, hk⟩ := hN
  have hlb : (set.map Value.bool).length = 128 := by simpa using hl
  have e0 : c[0]? = some (.int .i64 2) := by rw [hc]; exact reC_0 _ _ _ _ _
  have e2 : c[129]? = some kv := by rw [hc]; exact reC_kv _ _ _ _ _ hlb
  obtain ⟨ka, kc, rfl⟩ := hsl.form
  have hn := hsl.le
  have hz := zeroRe
  have hE := Lib.hid (En.start c s.size w)
  have HB := Lib.hid hB
  have HS := Lib.hid hsl
  have HF := Lib.hid hk
  have HA := Lib.hid hA
  have HX := Lib.hid hx
  have e : nodeE s.data.toList 2 set (mean s.data.toList kids) l m x = (mean s.data.toList kids).seq x := rfl
  rw [e]
  clear hsl hk hc hB hA hx e
  go_enter Tryf.func25, Tryf.ntmps25
  go_upto_region 2 with fail
  obtain ⟨V, hV⟩ : ∃ V, (w.alloc (.cells c tRe)).alloc (.cells (Array.replicate (s.size + 1) (.bool false)) 4) = V := ⟨_, rfl⟩
  rw [hV] at hE
  rw [hV]
  clear hV
  have b0 := hE.out.cell e0
  have b2 := hE.out.cell e2
  go_wp2
  go_loopg [7, 59] kids.len (fun g s7 s59 wx => ∃ (i : Nat) (B : Fo) (y : List Bool) (bo : Nat), i + g = kids.len ∧ s59 = .int .i64 i ∧ B.len = g ∧ FoC (fun _ => True) w B (cs.drop (i * 132)) ∧ AllOK B ∧ Kp (fun _ => False) V wx ∧ BL wx bo s7 y ∧ y.length = s.size + 1 ∧ (mean s.data.toList B).seq y = (mean s.data.toList kids).seq x)
  case atStart => exact ⟨0, kids, x, b, by omega, rfl, rfl, by simpa using HF.out, HA.out, Kp.refl _ _, HB.out.kept hE.out.kp id, HX.out, rfl⟩
  case round =>
    obtain ⟨i, B, y, bo, hig, rfl, hBl, hFB, hAB, hK, hBL, hy, hmean⟩ := hrel
    cases gk with
    | zero =>
      obtain rfl : i = kids.len := by omega
      have hB0 : B = .nil := by cases B with | nil => rfl | cons => simp [Fo.len] at hBl
      subst hB0
      go_wp2
      go_ret
      exact ⟨_, bo, rfl, by rw [← hmean]; exact hBL, (hE.out.kp.trans hK).below (Nat.le_refl _) (fun _ _ => id)⟩
    | succ g =>
      obtain ⟨k1, set1, kk, l1, m1, rest, rfl, hrl⟩ := Fo.len_pos hBl
      have hi : i < kids.len := by omega
      obtain ⟨g1, cap, cur, c1, hkv, hg1, hsz, hcut, hN1, hR1⟩ := elem_of HS.out hi hFB
      cases hkv
      have hwV := hE.out.kp.trans hK
      have hgr := hwV.heap id hg1
      have hc1 := hN1.size
      have n1 : reOk wr (.pointer (some ⟨g1, i * 132, none⟩)) := ⟨_, _, _, rfl, hgr, hsz⟩
      have n2 : reAt wr (.pointer (some ⟨g1, i * 132, none⟩)) = c1 := by rw [reAt_eq hgr, hcut]
      have n3 : nodeAt (wr.alloc (.cells reZ tRe)) (.pointer (some ⟨wr.heap.size, 0, none⟩)) := ⟨_, reZ, rfl, heap_alloc_new wr _, rfl⟩
      have n4 : oneNode (.agg c1) := ⟨c1, rfl, hc1, hN1.oneC⟩
      have i0 : (i : Int) < (kids.len : Int) := by omega
      have i1 : (0 : Int) ≤ (i : Int) := by omega
      go_upto_region 13 with fail
      clear n1 n2 n3 n4
      simp only [blkOf, World.setRow_alloc_new]
      obtain ⟨p1, p2⟩ := box_at (w := wr) hc1
      obtain ⟨W1, hW1⟩ : ∃ W1, wr.alloc (.cells c1 tRe) = W1 := ⟨_, rfl⟩
      have kr : Kp (fun _ => False) wr W1 := by rw [← hW1]; exact (Kp.refl _ _).alloc _
      rw [hW1] at p1 p2
      rw [hW1]
      clear hW1
      have HC := Lib.hid (hAB.1 W1 c1 s bo u7 y (hN1.kept (hwV.trans kr) (fun _ _ => id)) (hBL.kept kr id) hy hs)
      have HR : Hid (∀ r b2 w2, BL w2 b2 r (nodeE s.data.toList k1 set1 (mean s.data.toList kk) l1 m1 y) → Below W1.heap.size W1 w2 → ∃ (i2 : Nat) (B : Fo) (y : List Bool) (bo : Nat), i2 + g = kids.len ∧ Value.int .i64 ((i : Int) + 1) = .int .i64 i2 ∧ B.len = g ∧ FoC (fun _ => True) w B (cs.drop (i2 * 132)) ∧ AllOK B ∧ Kp (fun _ => False) V w2 ∧ BL w2 bo r y ∧ y.length = s.size + 1 ∧ (mean s.data.toList B).seq y = (mean s.data.toList kids).seq x) :=
        Lib.hid fun r b2 w2 h1 h2 => ⟨i + 1, rest, _, b2, by omega, rfl, hrl, hR1, hAB.2, (hK.trans kr).trans (Kp.of_below h2), h1, nodeE_len _ _ _ _ _ _ _ hy, by rw [← hmean, mean_seq_cons]⟩
      clear hFB hAB hK hBL hy hmean hcut hN1 hR1 hwV hgr hg1 hsz kr
      go_wp2_with fail
      refine HC.out.mono ?_
      rintro e w2 ⟨r, b2, rfl, hBL2, hbw⟩
      have HR2 := Lib.hid (HR.out r b2 w2 hBL2 hbw)
      clear hBL2 hbw HC HR
      go_wp2_with fail
      go_roundg g
      case measure => omega
      case rel => exact HR2.out
end Go.Proofs.YtjoefmnkbcoblaaFmt

/- Walk: ends: one of several nodes. -/
namespace Go.Proofs.YtjoefmnkbcoblaaFmt
open Go.RowKit
open Re (Fo nodeE mean setE begE finE falses)
set_option linter.unusedVariables false

theorem part_falses (n : Nat) : part (falses n) (falses n).length = Array.replicate n (.bool false) := by
  rw [part_full]
  apply Array.ext'
  simp [falses]
theorem En.none {c : Array Value} {n cap : Nat} {w V : World} (h : En c n w V) : BL V (w.heap.size + 1) (.slice (some ⟨w.heap.size + 1, 0, none⟩) (n + 1) cap) (falses (n + 1)) :=
  BL.of_row (t := 4) (by rw [part_falses]; exact h.out) (by simp [falses])
attribute [local go_sem ↓] mk_eq ld_eq st_eq
attribute [local go_sem] run_mkB1 run_ldAt run_stRe
set_option maxHeartbeats 2000000 in
set_option maxRecDepth 100000 in
theorem ends_alt (set : List Bool) (kids : Fo) (l m : Int) (hA : AllOK kids) : EndsOK 3 set kids l m := by
  intro w c s b v x hN hB hx hs
  obtain ⟨hl, kv, cs, hc, hsl, hk⟩ := hN
  have hlb : (set.map Value.bool).length = 128 := by simpa using hl
  have e0 : c[0]? = some (.int .i64 3) := by rw [hc]; exact reC_0 _ _ _ _ _
  have e2 : c[129]? = some kv := by rw [hc]; exact reC_kv _ _ _ _ _ hlb
  obtain ⟨ka, kc, rfl⟩ := hsl.form
  have hn := hsl.le
  have hz := zeroRe
  have hE := Lib.hid (En.start c s.size w)
  have HB := Lib.hid hB
  have HS := Lib.hid hsl
  have HF := Lib.hid hk
  have HA := Lib.hid hA
  have HX := Lib.hid hx
  have e : nodeE s.data.toList 3 set (mean s.data.toList kids) l m x = (mean s.data.toList kids).alt (falses (s.size + 1)) x := by
    show (mean s.data.toList kids).alt (falses (s.data.toList.length + 1)) x = _
    rw [Pat.size_toList]
  rw [e]
  clear hsl hk hc hB hA hx e
  go_enter Tryf.func25, Tryf.ntmps25
  go_upto_region 2 with fail
  obtain ⟨V, hV⟩ : ∃ V, (w.alloc (.cells c tRe)).alloc (.cells (Array.replicate (s.size + 1) (.bool false)) 4) = V := ⟨_, rfl⟩
  rw [hV] at hE
  rw [hV]
  clear hV
  have b0 := hE.out.cell e0
  have b2 := hE.out.cell e2
  go_wp2
  go_loopg [7, 73] kids.len (fun g s7 s73 wx => ∃ (i : Nat) (B : Fo) (y : List Bool) (bo : Nat), i + g = kids.len ∧ s73 = .int .i64 i ∧ B.len = g ∧ FoC (fun _ => True) w B (cs.drop (i * 132)) ∧ AllOK B ∧ Kp (fun _ => False) V wx ∧ BL wx bo s7 y ∧ y.length = s.size + 1 ∧ (mean s.data.toList B).alt y x = (mean s.data.toList kids).alt (falses (s.size + 1)) x)
  case atStart => exact ⟨0, kids, falses (s.size + 1), w.heap.size + 1, by omega, rfl, rfl, by simpa using HF.out, HA.out, Kp.refl _ _, hE.out.none, by simp [falses], rfl⟩
  case round =>
    obtain ⟨i, B, y, bo, hig, rfl, hBl, hFB, hAB, hK, hBL, hy, hmean⟩ := hrel
    cases gk with
    | zero =>
      obtain rfl : i = kids.len := by omega
      have hB0 : B = .nil := by cases B with | nil => rfl | cons => simp [Fo.len] at hBl
      subst hB0
      go_wp2
      go_ret
      exact ⟨_, bo, rfl, by rw [← hmean]; exact hBL, (hE.out.kp.trans hK).below (Nat.le_refl _) (fun _ _ => id)⟩
    | succ g =>
      obtain ⟨k1, set1, kk, l1, m1, rest, rfl, hrl⟩ := Fo.len_pos hBl
      have hi : i < kids.len := by omega
      obtain ⟨g1, cap, cur, c1, hkv, hg1, hsz, hcut, hN1, hR1⟩ := elem_of HS.out hi hFB
      cases hkv
      have hwV := hE.out.kp.trans hK
      have hgr := hwV.heap id hg1
      have hc1 := hN1.size
      have n1 : reOk wr (.pointer (some ⟨g1, i * 132, none⟩)) := ⟨_, _, _, rfl, hgr, hsz⟩
      have n2 : reAt wr (.pointer (some ⟨g1, i * 132, none⟩)) = c1 := by rw [reAt_eq hgr, hcut]
      have n3 : nodeAt (wr.alloc (.cells reZ tRe)) (.pointer (some ⟨wr.heap.size, 0, none⟩)) := ⟨_, reZ, rfl, heap_alloc_new wr _, rfl⟩
      have n4 : oneNode (.agg c1) := ⟨c1, rfl, hc1, hN1.oneC⟩
      have i0 : (i : Int) < (kids.len : Int) := by omega
      have i1 : (0 : Int) ≤ (i : Int) := by omega
      go_upto_region 19 with fail
      clear n1 n2 n3 n4
      simp only [blkOf, World.setRow_alloc_new]
      obtain ⟨p1, p2⟩ := box_at (w := wr) hc1
      obtain ⟨W1, hW1⟩ : ∃ W1, wr.alloc (.cells c1 tRe) = W1 := ⟨_, rfl⟩
      have kr : Kp (fun _ => False) wr W1 := by rw [← hW1]; exact (Kp.refl _ _).alloc _
      rw [hW1] at p1 p2
      rw [hW1]
      clear hW1
      have HX1 := Lib.hid ((HB.out.kept hwV id).kept kr id)
      have HC := Lib.hid (hAB.1 W1 c1 s b v x (hN1.kept (hwV.trans kr) (fun _ _ => id)) HX1.out HX.out hs)
      have HY := Lib.hid (hBL.kept kr id)
      have HYL := Lib.hid hy
      have hnl := nodeE_len s k1 set1 kk l1 m1 x HX.out
      have HR : Hid (∀ r b2 w2, BL w2 b2 r (Re.bOr y (nodeE s.data.toList k1 set1 (mean s.data.toList kk) l1 m1 x)) → Kp (fun _ => False) W1 w2 → ∃ (i2 : Nat) (B : Fo) (y : List Bool) (bo : Nat), i2 + g = kids.len ∧ Value.int .i64 ((i : Int) + 1) = .int .i64 i2 ∧ B.len = g ∧ FoC (fun _ => True) w B (cs.drop (i2 * 132)) ∧ AllOK B ∧ Kp (fun _ => False) V w2 ∧ BL w2 bo r y ∧ y.length = s.size + 1 ∧ (mean s.data.toList B).alt y x = (mean s.data.toList kids).alt (falses (s.size + 1)) x) :=
        Lib.hid fun r b2 w2 h1 h2 => ⟨i + 1, rest, _, b2, by omega, rfl, hrl, hR1, hAB.2, (hK.trans kr).trans h2, h1, by rw [Re.bOr_length _ _ (by omega)]; exact hy, by rw [← hmean, mean_alt_cons]⟩
      clear hFB hAB hK hBL hmean hcut hN1 hR1 hwV hgr hg1 hsz kr
      go_wp2_with fail
      refine HC.out.mono ?_
      rintro e w2 ⟨r, b2, rfl, hBL2, hbw⟩
      have HB2 := Lib.hid (both_any w2 bo b2 _ r y _ (HY.out.kept (Kp.of_below (X := fun _ => False) hbw) id) hBL2 (by omega) (by omega))
      have HK2 := Lib.hid (Kp.of_below (X := fun _ => False) hbw)
      clear hBL2 hbw HC
      go_wp2_with fail
      refine HB2.out.mono ?_
      rintro e w3 ⟨r3, rfl, ⟨b3, _, hBL3⟩, hbw3⟩
      have HR2 := Lib.hid (HR.out r3 b3 w3 hBL3 (HK2.out.trans (Kp.of_below hbw3)))
      clear hBL3 hbw3 HB2 HR
      go_wp2_with fail
      go_roundg g
      case measure => omega
      case rel => exact HR2.out
end Go.Proofs.YtjoefmnkbcoblaaFmt

/- Walk: ends: a node any number of times. -/
namespace Go.Proofs.YtjoefmnkbcoblaaFmt
open Go.RowKit
open Re (Fo nodeE mean setE begE finE falses tmL iter timesE bOr miss)
set_option linter.unusedVariables false

theorem same_rows (l l' : List Bool) : Value.bool (decide (l = l')) = if l = l' then .bool true else .bool false := by by_cases h : l = l' <;> simp [h]
attribute [local go_sem ↓] mk_eq ld_eq st_eq
attribute [local go_sem] run_mkB1 run_ldAt run_stRe
set_option maxHeartbeats 4000000 in
set_option maxRecDepth 100000 in
theorem ends_times (set : List Bool) (kids : Fo) (l m : Int) (hA : AllOK kids) (hk1 : kids.len = 1) (hl0 : 0 ≤ l) (hl1 : l ≤ 1) : EndsOK 4 set kids l m := by
  intro w c s b v x hN hB hx hs
  obtain ⟨hl, kv, cs, hc, hsl, hk⟩ := hN
  have hlb : (set.map Value.bool).length = 128 := by simpa using hl
  obtain ⟨k1, set1, kk, l1, m1, rest, rfl, hrl⟩ := Fo.len_pos (B := kids) (g := 0) hk1
  have hrest : rest = .nil := by cases rest with | nil => rfl | cons => simp [Fo.len] at hrl
  subst hrest
  obtain ⟨ln, rfl⟩ : ∃ ln : Nat, l = ln := ⟨l.toNat, by omega⟩
  have e0 : c[0]? = some (.int .i64 4) := by rw [hc]; exact reC_0 _ _ _ _ _
  have e2 : c[129]? = some kv := by rw [hc]; exact reC_kv _ _ _ _ _ hlb
  have e3 : c[130]? = some (.int .i64 ln) := by rw [hc]; exact reC_l _ _ _ _ _ hlb
  have e4 : c[131]? = some (.int .i64 m) := by rw [hc]; exact reC_m _ _ _ _ _ hlb
  rw [hk1] at hsl
  obtain ⟨g1, cap, cur, c1, rfl, hg1, hsz, hcut, hN1, _⟩ := elem_of (i := 0) hsl (by omega) (by simpa using hk)
  simp only [Nat.zero_mul, Nat.zero_add] at hsz hcut
  have hE := Lib.hid (En.start c s.size w)
  have hstep : ∀ y, y.length = s.size + 1 → (nodeE s.data.toList k1 set1 (mean s.data.toList kk) l1 m1 y).length = s.size + 1 := fun y hy => nodeE_len s k1 set1 kk l1 m1 y hy
  have hcall : ∀ (V : World) (bo : Nat) (u : Value) (y : List Bool), Kp (fun _ => False) w V → BL V bo u y → y.length = s.size + 1 → Calls Tryf.prog 25 #[.agg c1, .string s, u] V (EndsPost (nodeE s.data.toList k1 set1 (mean s.data.toList kk) l1 m1 y) V) :=
    fun V bo u y kV hb hy => hA.1 V c1 s bo u y (hN1.kept kV (fun _ _ => id)) hb hy hs
  have e : nodeE s.data.toList 4 set (mean s.data.toList (.cons k1 set1 kk l1 m1 .nil)) ln m x = tmL (nodeE s.data.toList k1 set1 (mean s.data.toList kk) l1 m1) m (s.size + 2) ln (iter (nodeE s.data.toList k1 set1 (mean s.data.toList kk) l1 m1) ln x) (iter (nodeE s.data.toList k1 set1 (mean s.data.toList kk) l1 m1) ln x) := by
    show timesE (nodeE s.data.toList k1 set1 (mean s.data.toList kk) l1 m1) ln m s.data.toList.length x = _
    rw [Pat.size_toList]; rfl
  rw [e]
  clear e
  generalize nodeE s.data.toList k1 set1 (mean s.data.toList kk) l1 m1 = step at *
  have HC := Lib.hid hcall
  have HB := Lib.hid hB
  have HS := Lib.hid hstep
  have HX := Lib.hid hx
  have HG := Lib.hid hg1
  have HCT := Lib.hid hcut
  clear hsl hk hc hB hA hx hcall hstep hg1 hcut hN1
  go_enter Tryf.func25, Tryf.ntmps25
  go_upto_region 2 with fail
  obtain ⟨V, hV⟩ : ∃ V, (w.alloc (.cells c tRe)).alloc (.cells (Array.replicate (s.size + 1) (.bool false)) 4) = V := ⟨_, rfl⟩
  rw [hV] at hE
  rw [hV]
  clear hV
  have b0 := hE.out.cell e0
  have b2 := hE.out.cell e2
  have b3 := hE.out.cell e3
  have b4 := hE.out.cell e4
  go_wp2
  go_loopg [13, 14] ln (fun g s13 s14 wx => ∃ (j : Nat) (y : List Bool) (bo : Nat), j + g = ln ∧ s14 = .int .i64 j ∧ BL wx bo s13 y ∧ y.length = s.size + 1 ∧ iter step g y = iter step ln x ∧ Kp (fun _ => False) V wx)
  case atStart => exact ⟨0, x, b, by omega, rfl, HB.out.kept hE.out.kp id, HX.out, rfl, Kp.refl _ _⟩
  case round =>
    obtain ⟨j, y, bo, hjg, rfl, hBL, hy, hit, hK⟩ := hrel
    have b2r := hK.cell id b2
    have b3r := hK.cell id b3
    have b4r := hK.cell id b4
    cases gk with
    | zero =>
      obtain rfl : j = ln := by omega
      have hit' : y = iter step j x := hit
      subst hit'
      clear hit
      have HK := Lib.hid hK
      have HBL := Lib.hid hBL
      clear hK hBL b2r b4r
      go_wp2
      go_loopg [7, 13, 15] (s.size + 2) (fun g s7 s13 s15 wx => ∃ (k : Nat) (now out : List Bool) (bn bo : Nat), s15 = .int .i64 k ∧ BL wx bn s13 now ∧ BL wx bo s7 out ∧ now.length = s.size + 1 ∧ out.length = s.size + 1 ∧ Kp (fun _ => False) V wx ∧ tmL step m g k now out = tmL step m (s.size + 2) j (iter step j x) (iter step j x) ∧ miss out < g ∧ k + g ≤ s.size + 4)
      case atStart => exact ⟨j, _, _, bo, bo, rfl, HBL.out, HBL.out, hy, hy, HK.out, rfl, by have := Re.miss_le (iter step j x); omega, by omega⟩
      case round =>
        clear b0 b2 b3r b3
        obtain ⟨k, now, out, bn, bo2, rfl, hBn, hBo, hnow, hout, hK, htm, hmiss, hkg⟩ := hrel
        have b2r := hK.cell id (hE.out.cell e2)
        have b4r := hK.cell id b4
        cases gk with
        | zero => omega
        | succ g =>
          by_cases hmk : m < 0 ∨ (k : Int) < m
          · rw [tmL, if_pos hmk] at htm
            have hgr := (hE.out.kp.trans hK).heap id HG.out
            have n1 : reOk wr (.pointer (some ⟨g1, 0, none⟩)) := ⟨_, _, _, rfl, hgr, by omega⟩
            have n2 : reAt wr (.pointer (some ⟨g1, 0, none⟩)) = c1 := by rw [reAt_eq hgr, HCT.out]
            have HCC := Lib.hid (HC.out wr bn _ now (hE.out.kp.trans hK) hBn hnow)
            have hsl := HS.out now hnow
            have hbl : (bOr out (step now)).length = out.length := Re.bOr_length _ _ (by omega)
            have hmo := Re.miss_or out (step now) (by omega)
            have HO : Hid (∀ V, Kp (fun _ => False) wr V → BL V bo2 u7 out) := Lib.hid fun V kV => hBo.kept kV id
            have HK := Lib.hid hK
            have HT := Lib.hid htm
            clear hBn hBo hK htm hgr b4 hbl
            have hdd : (decide (m < 0) = true) ∨ (decide (m < 0) = false ∧ decide ((k : Int) < m) = true) := by
              by_cases h0 : m < 0
              · exact .inl (by simpa using h0)
              · exact .inr ⟨by simpa using h0, by rcases hmk with h | h; omega; simpa using h⟩
            clear hmk
            rcases hdd with d1 | ⟨d1, d2⟩
            all_goals
              go_wp2_with fail
              refine HCC.out.mono ?_
              rintro e w2 ⟨r, b2, rfl, hBL2, hbw⟩
              have HK2 := Lib.hid (Kp.of_below (X := fun _ => False) hbw)
              have HB2 := Lib.hid hBL2
              have HC2 := Lib.hid (both_any w2 bo2 b2 _ r out (step now) (HO.out _ HK2.out) hBL2 (by omega) (by omega))
              clear hBL2 hbw HCC
              go_wp2_with fail
              refine HC2.out.mono ?_
              rintro e w3 ⟨r3, rfl, ⟨b3, _, hBL3⟩, hbw3⟩
              have HK3 := Lib.hid (HK2.out.trans (Kp.of_below hbw3))
              have HB3 := Lib.hid hBL3
              have HBn := Lib.hid (HB2.out.kept (Kp.of_below (X := fun _ => False) hbw3) id)
              have HC3 := Lib.hid (same_any w3 b3 bo2 r3 _ (bOr out (step now)) out hBL3 (HO.out _ HK3.out) (by rw [Re.bOr_length _ _ (by omega)]) (by rw [Re.bOr_length _ _ (by omega)]; omega))
              clear hBL3 hbw3 HC2 HK2 HB2
              go_wp2_with fail
              refine HC3.out.mono ?_
              rintro e w4 ⟨rfl, hbw4⟩
              have HK4 := Lib.hid (HK3.out.trans (Kp.of_below hbw4))
              by_cases hse : bOr out (step now) = out
              · have d3 : decide (bOr out (step now) = out) = true := by simpa using hse
                have HP : Hid (EndsPost (tmL step m (s.size + 2) j (iter step j x) (iter step j x)) w (.returned u7) w4) := Lib.hid ⟨_, bo2, rfl, by rw [← HT.out, if_pos hse]; exact HO.out _ HK4.out, ((hE.out.kp.trans HK.out).trans HK4.out).below (Nat.le_refl _) (fun _ _ => id)⟩
                clear hse hmo hbw4 HT HC3
                rw [d3]
                go_wp2
                go_ret
                exact HP.out
              · have d3 : decide (bOr out (step now) = out) = false := by simpa using hse
                have hml := hmo.2 hse
                have HR : Hid (∃ (k2 : Nat) (now2 out2 : List Bool) (bn bo : Nat), Value.int .i64 ((k : Int) + 1) = .int .i64 k2 ∧ BL w4 bn r now2 ∧ BL w4 bo r3 out2 ∧ now2.length = s.size + 1 ∧ out2.length = s.size + 1 ∧ Kp (fun _ => False) V w4 ∧ tmL step m g k2 now2 out2 = tmL step m (s.size + 2) j (iter step j x) (iter step j x) ∧ miss out2 < g ∧ k2 + g ≤ s.size + 4) :=
                  Lib.hid ⟨k + 1, step now, bOr out (step now), b2, b3, rfl, HBn.out.kept (Kp.of_below (X := fun _ => False) hbw4) id, HB3.out.kept (Kp.of_below (X := fun _ => False) hbw4) id, hsl, by rw [Re.bOr_length _ _ (by omega)]; exact hout, HK.out.trans HK4.out, by rw [← HT.out, if_neg hse]; rfl, by omega, by omega⟩
                clear hse hmo hbw4 HT HC3
                rw [d3]
                go_wp2
                go_roundg g
                case measure => omega
                case rel => exact HR.out
          · rw [tmL, if_neg hmk] at htm
            have d1 : decide (m < 0) = false := by simp; omega
            have d2 : decide ((k : Int) < m) = false := by simp; omega
            have HP : Hid (EndsPost (tmL step m (s.size + 2) j (iter step j x) (iter step j x)) w (.returned u7) wr) := Lib.hid ⟨_, bo2, rfl, by rw [← htm]; exact hBo, (hE.out.kp.trans hK).below (Nat.le_refl _) (fun _ _ => id)⟩
            clear hBn hBo hK htm b4
            go_wp2
            go_ret
            exact HP.out
    | succ g =>
      have i0 : (j : Int) < (ln : Int) := by omega
      have i1 : (0 : Int) ≤ (j : Int) := by omega
      have hgr := (hE.out.kp.trans hK).heap id HG.out
      have n1 : reOk wr (.pointer (some ⟨g1, 0, none⟩)) := ⟨_, _, _, rfl, hgr, by omega⟩
      have n2 : reAt wr (.pointer (some ⟨g1, 0, none⟩)) = c1 := by rw [reAt_eq hgr, HCT.out]
      have HCC := Lib.hid (HC.out wr bo _ y (hE.out.kp.trans hK) hBL hy)
      have HR : Hid (∀ r b2 w2, BL w2 b2 r (step y) → Below wr.heap.size wr w2 → ∃ (j2 : Nat) (y : List Bool) (bo : Nat), j2 + g = ln ∧ Value.int .i64 ((j : Int) + 1) = .int .i64 j2 ∧ BL w2 bo r y ∧ y.length = s.size + 1 ∧ iter step g y = iter step ln x ∧ Kp (fun _ => False) V w2) :=
        Lib.hid fun r b2 w2 h1 h2 => ⟨j + 1, _, b2, by omega, rfl, h1, HS.out _ hy, hit, hK.trans (Kp.of_below h2)⟩
      clear hit hBL hK hgr
      go_wp2_with fail
      refine HCC.out.mono ?_
      rintro e w2 ⟨r, b2, rfl, hBL2, hbw⟩
      have HR2 := Lib.hid (HR.out r b2 w2 hBL2 hbw)
      clear hBL2 hbw HCC HR
      go_wp2_with fail
      go_roundg g
      case measure => omega
      case rel => exact HR2.out
end Go.Proofs.YtjoefmnkbcoblaaFmt
