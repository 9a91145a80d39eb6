/- Joined by pack.py: ImA, ImB, ImC. -/
import Derived.Test.YtonifkkdokaooaaFmtP42
import Derived.Outline
import Derived.Test.YtonifkkdokaooaaFmtP15
/- Walk: impl.Regexp. -/
namespace Go.Proofs.YtonifkkdokaooaaFmt
open Go.RowKit Go.Extern.Stop Go.Stop Go.Extern
set_option linter.unusedVariables false

abbrev tIG : TypeId := 38
/-- what impl.Regexp returns -/
def ImplPost (r : RO) (w : World) (e : Ending) (w' : World) : Prop := Below w.heap.size w w' ∧ ∃ gv,
  match r with
  | .ok t => e = .returned (.tuple #[.string ⟨t.toArray⟩, .int .i64 0, gv]) ∧ w'.ownsRow w.heap.size tIG 2 gv 0 []
  | .neg gs => e = .returned (.tuple #[.string ⟨#[]⟩, .int .i64 1, gv]) ∧ w'.ownsRow w.heap.size tIG 2 gv gs.length (grCells gs)
  | .syn => e = .returned (.tuple #[.string ⟨#[]⟩, .int .i64 2, gv]) ∧ w'.ownsRow w.heap.size tIG 2 gv 0 []
theorem own_empty (w w1 : World) (h : w.heap.size ≤ w1.heap.size) : (w1.alloc (.cells #[] tIG)).ownsRow w.heap.size tIG 2 (.slice (some ⟨w1.heap.size, 0, none⟩) 0 0) 0 [] :=
  ⟨rfl, .inr ⟨w1.heap.size, 0, #[], rfl, h, alloc_at _ _, Nat.le_refl _, Nat.zero_le _, rfl, rfl⟩⟩
set_option maxHeartbeats 4000000 in
set_option maxRecDepth 100000 in
theorem impl_ok (F : Interp) (s : ByteArray) (pe : Addr) (m : Int) (md : Md) (ent nc sho : Bool) (w : World) (hm : Mo m md) (hx : Mx m ent nc sho) (hp : RPre F s pe w) (t : List UInt8) (hr : regexpM md ent nc sho s = .ok t) :
    Calls Tryf.prog 16 #[.string s, .int .u64 m] w (ImplPost (.ok t) w) := by
  have HR := regexp_walk F s pe m md ent nc sho w hm hx hp
  rw [hr] at HR
  have H := Lib.hid HR
  clear HR hr hm hx hp
  go_enter Tryf.func16, Tryf.ntmps16
  go_wp2_with fail
  refine H.out.mono ?_
  rintro e w1 ⟨hb, rfl⟩
  have HB := Lib.hid hb
  clear hb H
  go_wp2_with fail
  go_ret3
  exact ⟨HB.out.trans ((Below.refl _ _).alloc HB.out.size _), _, rfl, own_empty w w1 HB.out.size⟩
set_option maxHeartbeats 4000000 in
set_option maxRecDepth 100000 in
theorem impl_syn (F : Interp) (s : ByteArray) (pe : Addr) (m : Int) (md : Md) (ent nc sho : Bool) (w : World) (hm : Mo m md) (hx : Mx m ent nc sho) (hp : RPre F s pe w) (hg : w.cell? ⟨gT, 0, none⟩ = some hT0) (hr : regexpM md ent nc sho s = .syn) :
    Calls Tryf.prog 16 #[.string s, .int .u64 m] w (ImplPost .syn w) := by
  have HR := regexp_walk F s pe m md ent nc sho w hm hx hp
  rw [hr] at HR
  have H := Lib.hid HR
  have HG := Lib.hid hg
  clear HR hr hm hx hp hg
  go_enter Tryf.func16, Tryf.ntmps16
  go_wp2_with fail
  refine H.out.mono ?_
  rintro e w1 ⟨hb, v, rfl, p, mm, u, rfl, hp, hu⟩
  have hpl : p < w1.heap.size := (Array.getElem?_eq_some_iff.1 hp).1
  have hgl : gT < w.heap.size := World.block_lt_of_cell? _ _ HG.out
  have hg1 : (w1.alloc (.cells #[.pointer none] 45)).cell? ⟨gT, 0, none⟩ = some hT0 := by
    rw [World.cell?_alloc_lt _ _ ⟨gT, 0, none⟩ (by have := hb.size; show gT < _; omega)]
    exact (Kp.of_below (X := fun _ => False) hb).cell id HG.out
  have hp1 : (w1.alloc (.cells #[.pointer none] 45)).heap[p]? = some (.cells #[.string mm, u] 94 (0, 0)) := by
    rw [Lib.alloc_old _ _ _ hpl]; exact hp
  have HA : Hid (Calls Tryf.prog 23 #[.iface tS (.pointer (some ⟨p, 0, none⟩)), .iface tNN (.pointer (some ⟨w1.heap.size, 0, none⟩))] (w1.alloc (.cells #[.pointer none] 45)) fun ev w' => ev = .returned (.bool false) ∧ Below (w1.alloc (.cells #[.pointer none] 45)).heap.size (w1.alloc (.cells #[.pointer none] 45)) w') := by
    rcases hu with rfl | ⟨k, rfl, _⟩
    · exact Lib.hid (as_miss0 p mm _ _ hg1 hp1)
    · exact Lib.hid (as_miss1 p _ mm _ _ hg1 hp1)
  have HB := Lib.hid hb
  clear hb H hu hp hpl hg1 hp1 HG hgl
  go_wp2_with fail
  refine HA.out.mono ?_
  rintro e w2 ⟨rfl, hb2⟩
  have HB2 := Lib.hid (HB.out.trans (((Below.refl w.heap.size w1).alloc HB.out.size _).trans (hb2.mono (by have := HB.out.size; simp; omega))))
  clear hb2 HA HB
  go_wp2_with fail
  go_ret3
  exact ⟨HB2.out.trans ((Below.refl _ _).alloc HB2.out.size _), _, rfl, own_empty w w2 HB2.out.size⟩
end Go.Proofs.YtonifkkdokaooaaFmt

/- Walk: impl.Regexp where groups are told. -/
namespace Go.Proofs.YtonifkkdokaooaaFmt
open Go.RowKit Go.Extern.Stop Go.Stop Go.Extern
set_option linter.unusedVariables false

theorem infoIG : (Tryf.prog.info? 38).map (fun i => (i.zero, i.size, i.bytes)) = some (some (.agg #[.int .i64 0, .int .i64 0]), 2, 16) := by kernel_rfl
theorem grCells_len (gs : List (Nat × Nat)) : (grCells gs).length = gs.length * 2 := by
  induction gs with
  | nil => rfl
  | cons a r ih => simp only [grCells, List.flatMap_cons, List.length_append, List.length_cons, List.length_nil] at ih ⊢; omega
theorem grCells_at (gs : List (Nat × Nat)) (k : Nat) (h : k < gs.length) : (grCells gs)[k * 2]? = some (.int .i64 (gs[k].1 : Int)) ∧ (grCells gs)[k * 2 + 1]? = some (.int .i64 (gs[k].2 : Int)) := by
  have e : gs = gs.take k ++ gs[k] :: gs.drop (k + 1) := by rw [← List.drop_eq_getElem_cons h, List.take_append_drop]
  have e2 : grCells gs = grCells (gs.take k) ++ (.int .i64 (gs[k].1 : Int) :: .int .i64 (gs[k].2 : Int) :: grCells (gs.drop (k + 1))) :=
    (congrArg grCells e).trans (by simp only [grCells, List.flatMap_append, List.flatMap_cons, List.cons_append, List.nil_append])
  have l : (grCells (gs.take k)).length = k * 2 := by rw [grCells_len, List.length_take]; congr 1; omega
  rw [e2]
  constructor
  · rw [List.getElem?_append_right (by omega), l]; simp
  · rw [List.getElem?_append_right (by omega), l]; simp [show k * 2 + 1 - k * 2 = 1 from by omega]
/-- the cells of a row of groups -/
theorem own_cells {w : World} {B : Nat} {gv : Value} {gs : List (Nat × Nat)} (h : w.ownsRow B tG 2 gv gs.length (grCells gs)) (hne : gs ≠ []) :
    ∃ q cap, gv = .slice (some ⟨q, 0, none⟩) gs.length cap ∧ B ≤ q ∧ q < w.heap.size ∧ ∀ k (hk : k < gs.length), w.cell? ⟨q, k * 2, none⟩ = some (.int .i64 (gs[k].1 : Int)) ∧ w.cell? ⟨q, k * 2 + 1, none⟩ = some (.int .i64 (gs[k].2 : Int)) := by
  rcases h.2 with ⟨_, h0⟩ | ⟨q, cap, cur, rfl, hb, hq, hc, _, hsz, ht⟩
  · exact absurd (List.length_eq_zero_iff.1 h0) hne
  · refine ⟨q, cap, rfl, hb, (Array.getElem?_eq_some_iff.1 hq).1, fun k hk => ?_⟩
    obtain ⟨a1, a2⟩ := grCells_at gs k hk
    rw [← ht] at a1 a2
    rw [Lib.cell_of_heap hq, Lib.cell_of_heap hq]
    rw [List.getElem?_take_of_lt (by omega)] at a1 a2
    simp only [Array.getElem?_toList] at a1 a2
    exact ⟨a1, a2⟩
end Go.Proofs.YtonifkkdokaooaaFmt

/- Walk: impl.Regexp where groups are told: the loop. -/
namespace Go.Proofs.YtonifkkdokaooaaFmt
open Go.RowKit Go.Extern.Stop Go.Stop Go.Extern
set_option linter.unusedVariables false

theorem regexpM_neg {md : Md} {ent nc sho : Bool} {s : ByteArray} {gs : List (Nat × Nat)} (h : regexpM md ent nc sho s = .neg gs) : gs ≠ [] := by
  unfold regexpM at h
  split at h
  · cases h
  · cases hq : loopR md s (s.size + 1) 0 (hdr ent nc sho) [] with
    | syn => rw [hq] at h; cases h
    | done acc g2 =>
      rw [hq] at h
      simp only [rOut] at h
      split at h
      · cases h
      · cases h; assumption
theorem Kp.grown {a w w' : World} {e : TypeId} {n k : Nat} {v : Value} {xs : List Value} (h : Kp (fun _ => False) a w) (ho : w.ownsRow a.heap.size e n v k xs) (hg : w.grownBy w' v.ownBlock) : Kp (fun _ => False) a w' := by
  refine ⟨hg.os.trans h.os, hg.tape.trans h.tape, hg.output.trans h.output, Nat.le_trans h.size hg.size, fun x hx _ => ?_⟩
  rw [hg.block x (Nat.lt_of_lt_of_le hx h.size) ?_, h.block x hx id]
  intro he
  rcases ho.2 with ⟨rfl, _⟩ | ⟨g, cap, cur, rfl, hb, _⟩
  · cases he
  · have h9 : x = g := Option.some.inj he
    omega
set_option maxHeartbeats 4000000 in
set_option maxRecDepth 100000 in
theorem impl_neg (F : Interp) (s : ByteArray) (pe : Addr) (m : Int) (md : Md) (ent nc sho : Bool) (w : World) (hm : Mo m md) (hx : Mx m ent nc sho) (hp : RPre F s pe w) (hg : w.cell? ⟨gT, 0, none⟩ = some hT0) (gs : List (Nat × Nat)) (hr : regexpM md ent nc sho s = .neg gs) :
    Calls Tryf.prog 16 #[.string s, .int .u64 m] w (ImplPost (.neg gs) w) := by
  have hne := regexpM_neg hr
  have HR := regexp_walk F s pe m md ent nc sho w hm hx hp
  rw [hr] at HR
  have H := Lib.hid HR
  have HG := Lib.hid hg
  have hs42 := hp.hs
  clear HR hr hm hx hp hg
  go_enter Tryf.func16, Tryf.ntmps16
  go_wp2_with fail
  refine H.out.mono ?_
  rintro e w1 ⟨hb, p, gv, rfl, hp, hown, hlen⟩
  have hpl : p < w1.heap.size := (Array.getElem?_eq_some_iff.1 hp).1
  have hgl : gT < w.heap.size := World.block_lt_of_cell? _ _ HG.out
  obtain ⟨V, hV⟩ : ∃ V, w1.alloc (.cells #[.pointer none] 45) = V := ⟨_, rfl⟩
  have kV : Kp (fun _ => False) w1 V := by rw [← hV]; exact (Kp.refl _ _).alloc _
  have vS : V.heap.size = w1.heap.size + 1 := by rw [← hV]; simp
  have vN : V.heap[w1.heap.size]? = some (.cells #[.pointer none] 45 (0, 0)) := by rw [← hV]; exact heap_alloc_new w1 _
  have hg1 : V.cell? ⟨gT, 0, none⟩ = some hT0 := kV.cell id ((Kp.of_below (X := fun _ => False) hb).cell id HG.out)
  have HA := Lib.hid (as_hit ⟨p, 0, none⟩ ⟨w1.heap.size, 0, none⟩ (.pointer none) V hg1 (by rw [Lib.cell_of_heap vN]; rfl) (Lib.frozen_of_heap vN 0))
  obtain ⟨q, cap, rfl, hqB, hql, hqc⟩ := own_cells hown hne
  have HB := Lib.hid hb
  have HP := Lib.hid hp
  have HQ := Lib.hid hqc
  clear hb H hown HG hgl hp hqc
  go_wp2_with fail
  refine HA.out.mono ?_
  rintro e w2 ⟨rfl, hw2⟩
  have k2 : Kp (· = w1.heap.size) V w2 := by
    rw [hw2]
    exact Kp.setCell (X := (· = w1.heap.size)) (p := ⟨w1.heap.size, 0, none⟩) (((((Kp.refl _ _).alloc _).alloc _).alloc _).alloc _) (.inl rfl) _
  have cN : w2.cell? ⟨w1.heap.size, 0, none⟩ = some (.pointer (some ⟨p, 0, none⟩)) := by
    rw [hw2]
    have h4 : ((((V.alloc (.cells #[.pointer (some ⟨w1.heap.size, 0, none⟩)] tNN)).alloc (.cells #[.pointer (some ⟨nG, tNN, none⟩), .pointer (some ⟨V.heap.size, 0, none⟩), .int .u64 150] tVal)).alloc (.cells #[.pointer (some ⟨nG, tNN, none⟩), .pointer (some ⟨V.heap.size, 0, none⟩), .int .u64 150] tVal)).alloc (.cells #[.pointer (some ⟨p, 0, none⟩)] tN)).heap[w1.heap.size]? = some (.cells #[.pointer none] 45 (0, 0)) :=
      Kp.heap (X := fun _ => False) ((((Kp.refl _ V).alloc _).alloc _).alloc _ |>.alloc _) id vN
    rw [Lib.cell_of_heap (heap_setCell_row h4)]; rfl
  have hne1 : p ≠ w1.heap.size := by omega
  have cP : w2.cell? ⟨p, 0, none⟩ = some (.slice (some ⟨q, 0, none⟩) gs.length cap) := by
    rw [Lib.cell_of_heap (k2.heap (by show ¬ p = w1.heap.size; omega) (kV.heap id HP.out))]; rfl
  have HQ2 : Hid (∀ k (hk : k < gs.length), w2.cell? ⟨q, k * 2, none⟩ = some (.int .i64 (gs[k].1 : Int)) ∧ w2.cell? ⟨q, k * 2 + 1, none⟩ = some (.int .i64 (gs[k].2 : Int))) :=
    Lib.hid fun k hk => ⟨k2.cell (by show ¬ q = w1.heap.size; omega) (kV.cell id (HQ.out k hk).1), k2.cell (by show ¬ q = w1.heap.size; omega) (kV.cell id (HQ.out k hk).2)⟩
  have HW : Hid (Below w.heap.size w w2) := Lib.hid (HB.out.trans ((kV.false_mono.trans k2 : Kp (· = w1.heap.size) w1 w2).below HB.out.size (fun k hk => by have := HB.out.size; show ¬ k = w1.heap.size; omega)))
  have q2 : q < w2.heap.size := by have := k2.size; omega
  clear HA k2 hw2 vN kV hg1 HQ HP HB hV vS
  go_upto_region 8 with fail
  obtain ⟨W4, hW4⟩ : ∃ W4, w2.alloc (.cells #[] tIG) = W4 := ⟨_, rfl⟩
  have k4 : Kp (fun _ => False) w2 W4 := by rw [← hW4]; exact (Kp.refl _ _).alloc _
  have o4 : W4.ownsRow w2.heap.size tIG 2 (.slice (some ⟨w2.heap.size, 0, none⟩) 0 0) 0 [] := by rw [← hW4]; exact own_empty w2 w2 (Nat.le_refl _)
  have K4 := Lib.hid k4
  have O4 := Lib.hid o4
  have cN4 := k4.cell id cN
  have cP4 := k4.cell id cP
  rw [hW4]
  clear hW4 k4 o4 cN cP
  obtain ⟨i0, hi0, hz0, hz1, hz2⟩ := info_parts infoIG
  go_wp2
  go_loopg [10, 34] gs.length (fun g s10 s34 wx => ∃ k : Nat, k + g = gs.length ∧ s34 = .int .i64 k ∧ wx.ownsRow w2.heap.size tIG 2 s10 k (grCells (gs.take k)) ∧ Kp (fun _ => False) w2 wx)
  case atStart => exact ⟨0, by omega, rfl, O4.out, K4.out⟩
  case round =>
    obtain ⟨k, hkg, rfl, hO, hK⟩ := hrel
    cases gk with
    | zero =>
      obtain rfl : k = gs.length := by omega
      have HO := Lib.hid hO
      have HK := Lib.hid hK
      clear hO hK
      go_wp2
      go_ret3
      exact ⟨HW.out.trans ((Kp.below HK.out (Nat.le_refl _) (fun _ _ => id)).mono HW.out.size), _, rfl, by
        have := ownsRow.le HO.out HW.out.size
        rwa [List.take_of_length_le (Nat.le_refl _)] at this⟩
    | succ g =>
      have hk : k < gs.length := by omega
      have c0 := hK.cell id (HQ2.out k hk).1
      have c1 := hK.cell id (HQ2.out k hk).2
      have i0' : (k : Int) < (gs.length : Int) := by omega
      have i1 : (0 : Int) ≤ (k : Int) := by omega
      have HO := Lib.hid hO
      have HK := Lib.hid hK
      clear hO hK
      have hks := HK.out.size
      have hgk : grCells (gs.take (k + 1)) = grCells (gs.take k) ++ [.int .i64 (gs[k].1 : Int), .int .i64 (gs[k].2 : Int)] := by
        rw [List.take_add_one, List.getElem?_eq_getElem hk]; exact grCells_snoc _ _
      have HGK := Lib.hid hgk
      clear hgk
      generalize (gs[k].1 : Int) = ga at *
      generalize (gs[k].2 : Int) = gb at *
      go_wp2_with (at_builtin; refine wpList_append_own _ rfl _ _ 22 rfl w2.heap.size tIG i0 (.agg #[.int .i64 0, .int .i64 0]) 2 16 Tryf.underlying22 hi0 hz0 hz1 hz2 rfl (by decide) _ k _ rfl ((HO.out.alloc _).alloc _) ⟨wr.heap.size + 1, 0, none⟩ 1 1 [.int .i64 ga, .int .i64 gb] rfl rfl ?c1 ?c2 ?c3 ?c4 ?c5 ?_)
      case c1 =>
        have hn : ((wr.alloc (.cells #[.int .i64 ga, .int .i64 gb] tG)).alloc (.cells #[.int .i64 ga, .int .i64 gb] tIG)).heap[wr.heap.size + 1]? = some (.cells #[.int .i64 ga, .int .i64 gb] tIG (0, 0)) := by
          have := heap_alloc_new (wr.alloc (.cells #[.int .i64 ga, .int .i64 gb] tG)) (.cells #[.int .i64 ga, .int .i64 gb] tIG)
          simpa using this
        intro j u hu
        match j, hu with
        | 0, hu => simp at hu; subst hu; exact (Lib.cell_of_heap hn _).trans rfl
        | 1, hu => simp at hu; subst hu; exact (Lib.cell_of_heap hn _).trans rfl
      case c2 => simp [Value.oneCell']
      case c3 => unfold maxLen; omega
      case c4 => omega
      case c5 => simp; omega
      intro v' w6 hown' hgrow hnn
      have HR : Hid (∃ k2 : Nat, k2 + g = gs.length ∧ Value.int .i64 ((k : Int) + 1) = .int .i64 k2 ∧ w6.ownsRow w2.heap.size tIG 2 v' k2 (grCells (gs.take k2)) ∧ Kp (fun _ => False) w2 w6) :=
        Lib.hid ⟨k + 1, by omega, rfl, by rw [HGK.out]; exact hown', ((HK.out.alloc _).alloc _).grown ((HO.out.alloc _).alloc _) hgrow⟩
      clear hown' hgrow hnn HO HK HGK
      go_wp2_with fail
      go_roundg g
      case measure => omega
      case rel => exact HR.out
end Go.Proofs.YtonifkkdokaooaaFmt
