/- Joined by pack.py: ImA, ImB. -/
import Derived.Test.YtpfgmiocdgfniaaGreatFmtP20
import Derived.Outline
set_option linter.unusedVariables false
set_option maxHeartbeats 8000000
set_option maxRecDepth 1000000
namespace Go.Proofs.YtpfgmiocdgfniaaGreatFmt
open Go.RowKit Go.Extern.Stop Go.Stop Go.Extern
abbrev tIG : TypeId := 61
def ImplPost (r : RO) (w : World) (e : Ending) (w' : World) : Prop := Below w.heap.size w w' ∧ ∃ gv,
  match r with
  | .ok t => e = .returned (.tuple #[.string ⟨t.toArray⟩, .int .i64 0, gv]) ∧ w'.ownsRow w.heap.size tIG 2 gv 0 []
  | .neg gs => e = .returned (.tuple #[.string ⟨#[]⟩, .int .i64 1, gv]) ∧ w'.ownsRow w.heap.size tIG 2 gv gs.length (grCells gs)
  | .syn => e = .returned (.tuple #[.string ⟨#[]⟩, .int .i64 2, gv]) ∧ w'.ownsRow w.heap.size tIG 2 gv 0 []
theorem own_empty (w w1 : World) (h : w.heap.size ≤ w1.heap.size) : (w1.alloc (.cells #[] tIG)).ownsRow w.heap.size tIG 2 (.slice (some ⟨w1.heap.size, 0, none⟩) 0 0) 0 [] :=
  ⟨rfl, .inr ⟨w1.heap.size, 0, #[], rfl, h, alloc_at _ _, Nat.le_refl _, Nat.zero_le _, rfl, rfl⟩⟩
theorem impl_ok (F : Interp) (s : ByteArray) (pe : Addr) (m : Int) (md : Md) (ent nc sho : Bool) (w : World) (hm : Mo m md) (hx : Mx m ent nc sho) (hp : RPre F s pe w) (t : List UInt8) (hr : regexpM md ent nc sho s = .ok t) :
    Calls Tryz.prog 7 #[.string s, .int .u64 m] w (ImplPost (.ok t) w) := by
  have HR := regexp_walk F s pe m md ent nc sho w hm hx hp
  rw [hr] at HR
  have H := Lib.hid HR
  clear HR hr hm hx hp
  go_enter Tryz.func7, Tryz.ntmps7
  go_wp2_with fail
  refine H.out.mono ?_
  rintro e w1 ⟨hb, rfl⟩
  have HB := Lib.hid hb
  clear hb H
  go_wp2_with fail
  go_ret3
  exact ⟨HB.out.trans ((Below.refl _ _).alloc HB.out.size _), _, rfl, own_empty w w1 HB.out.size⟩
theorem impl_syn (F : Interp) (s : ByteArray) (pe : Addr) (m : Int) (md : Md) (ent nc sho : Bool) (w : World) (hm : Mo m md) (hx : Mx m ent nc sho) (hp : RPre F s pe w) (hg : w.cell? ⟨gT, 0, none⟩ = some hT0) (hr : regexpM md ent nc sho s = .syn) :
    Calls Tryz.prog 7 #[.string s, .int .u64 m] w (ImplPost .syn w) := by
  have HR := regexp_walk F s pe m md ent nc sho w hm hx hp
  rw [hr] at HR
  have H := Lib.hid HR
  have HG := Lib.hid hg
  clear HR hr hm hx hp hg
  go_enter Tryz.func7, Tryz.ntmps7
  go_wp2_with fail
  refine H.out.mono ?_
  rintro e w1 ⟨hb, v, rfl, p, mm, u, rfl, hp, hu⟩
  have hpl : p < w1.heap.size := (Array.getElem?_eq_some_iff.1 hp).1
  have hgl : gT < w.heap.size := World.block_lt_of_cell? _ _ HG.out
  have hg1 : (w1.alloc (.cells #[.pointer none] 53)).cell? ⟨gT, 0, none⟩ = some hT0 := by
    rw [World.cell?_alloc_lt _ _ ⟨gT, 0, none⟩ (by have := hb.size; show gT < _; omega)]
    exact (Kp.of_below (X := fun _ => False) hb).cell id HG.out
  have hp1 : (w1.alloc (.cells #[.pointer none] 53)).heap[p]? = some (.cells #[.string mm, u] 108 (0, 0)) := by
    rw [Lib.alloc_old _ _ _ hpl]; exact hp
  have HA : Hid (Calls Tryz.prog 16 #[.iface tS (.pointer (some ⟨p, 0, none⟩)), .iface tNN (.pointer (some ⟨w1.heap.size, 0, none⟩))] (w1.alloc (.cells #[.pointer none] 53)) fun ev w' => ev = .returned (.bool false) ∧ Below (w1.alloc (.cells #[.pointer none] 53)).heap.size (w1.alloc (.cells #[.pointer none] 53)) w') := by
    rcases hu with rfl | ⟨k, rfl, _⟩
    · exact Lib.hid (as_miss0 p mm _ _ hg1 hp1)
    · exact Lib.hid (as_miss1 p _ mm _ _ hg1 hp1)
  have HB := Lib.hid hb
  clear hb H hu hp hpl hg1 hp1 HG hgl
  go_wp2_with fail
  refine HA.out.mono ?_
  rintro e w2 ⟨rfl, hb2⟩
  have HB2 := Lib.hid (HB.out.trans (((Below.refl w.heap.size w1).alloc HB.out.size _).trans (hb2.mono (by have := HB.out.size; simp; omega))))
  clear hb2 HA HB
  go_wp2_with fail
  go_ret3
  exact ⟨HB2.out.trans ((Below.refl _ _).alloc HB2.out.size _), _, rfl, own_empty w w2 HB2.out.size⟩
end Go.Proofs.YtpfgmiocdgfniaaGreatFmt

namespace Go.Proofs.YtpfgmiocdgfniaaGreatFmt
open Go.RowKit Go.Extern.Stop Go.Stop Go.Extern
theorem infoIG : (Tryz.prog.info? 61).map (fun i => (i.zero, i.size, i.bytes)) = some (some (.agg #[.int .i64 0, .int .i64 0]), 2, 16) := by kernel_rfl
theorem grCells_len (gs : List (Nat × Nat)) : (grCells gs).length = gs.length * 2 := by
  induction gs with
  | nil => rfl
  | cons a r ih => simp only [grCells, List.flatMap_cons, List.length_append, List.length_cons, List.length_nil] at ih ⊢; omega
theorem grCells_at (gs : List (Nat × Nat)) (k : Nat) (h : k < gs.length) : (grCells gs)[k * 2]? = some (.int .i64 (gs[k].1 : Int)) ∧ (grCells gs)[k * 2 + 1]? = some (.int .i64 (gs[k].2 : Int)) := by
  have e : gs = gs.take k ++ gs[k] :: gs.drop (k + 1) := by rw [← List.drop_eq_getElem_cons h, List.take_append_drop]
  have e2 : grCells gs = grCells (gs.take k) ++ (.int .i64 (gs[k].1 : Int) :: .int .i64 (gs[k].2 : Int) :: grCells (gs.drop (k + 1))) :=
    (congrArg grCells e).trans (by simp only [grCells, List.flatMap_append, List.flatMap_cons, List.cons_append, List.nil_append])
  have l : (grCells (gs.take k)).length = k * 2 := by rw [grCells_len, List.length_take]; congr 1; omega
  rw [e2]
  constructor
  · rw [List.getElem?_append_right (by omega), l]; simp
  · rw [List.getElem?_append_right (by omega), l]; simp [show k * 2 + 1 - k * 2 = 1 from by omega]
theorem own_cells {w : World} {B : Nat} {gv : Value} {gs : List (Nat × Nat)} (h : w.ownsRow B tG 2 gv gs.length (grCells gs)) (hne : gs ≠ []) :
    ∃ q cap, gv = .slice (some ⟨q, 0, none⟩) gs.length cap ∧ B ≤ q ∧ q < w.heap.size ∧ ∀ k (hk : k < gs.length), w.cell? ⟨q, k * 2, none⟩ = some (.int .i64 (gs[k].1 : Int)) ∧ w.cell? ⟨q, k * 2 + 1, none⟩ = some (.int .i64 (gs[k].2 : Int)) := by
  rcases h.2 with ⟨_, h0⟩ | ⟨q, cap, cur, rfl, hb, hq, hc, _, hsz, ht⟩
  · exact absurd (List.length_eq_zero_iff.1 h0) hne
  · refine ⟨q, cap, rfl, hb, (Array.getElem?_eq_some_iff.1 hq).1, fun k hk => ?_⟩
    obtain ⟨a1, a2⟩ := grCells_at gs k hk
    rw [← ht] at a1 a2
    rw [Lib.cell_of_heap hq, Lib.cell_of_heap hq]
    rw [List.getElem?_take_of_lt (by omega)] at a1 a2
    simp only [Array.getElem?_toList] at a1 a2
    exact ⟨a1, a2⟩
end Go.Proofs.YtpfgmiocdgfniaaGreatFmt
