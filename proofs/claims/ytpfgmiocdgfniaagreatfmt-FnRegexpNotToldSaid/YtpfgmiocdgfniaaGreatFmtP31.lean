/- Joined by pack.py: ImC, EnI, LawR, LawS. -/
import Derived.Test.YtpfgmiocdgfniaaGreatFmtP22
import Derived.Test.YtpfgmiocdgfniaaGreatFmtP21
import Derived.Test.YtpfgmiocdgfniaaGreatFmtP28
import Derived.Test.YtpfgmiocdgfniaaGreatFmtP29
import Derived.Laws.BitsLemmas
import Derived.Test.YtpfgmiocdgfniaaGreatFmtP30
import Derived.Test.YtpfgmiocdgfniaaGreatFmtP24
set_option linter.unusedVariables false
set_option maxHeartbeats 8000000
set_option maxRecDepth 1000000
namespace Go.Proofs.YtpfgmiocdgfniaaGreatFmt
open Go.RowKit Go.Extern.Stop Go.Stop Go.Extern
theorem regexpM_neg {md : Md} {ent nc sho : Bool} {s : ByteArray} {gs : List (Nat × Nat)} (h : regexpM md ent nc sho s = .neg gs) : gs ≠ [] := by
  unfold regexpM at h
  split at h
  · cases h
  · cases hq : loopR md s (s.size + 1) 0 (hdr ent nc sho) [] with
    | syn => rw [hq] at h; cases h
    | done acc g2 =>
      rw [hq] at h
      simp only [rOut] at h
      split at h
      · cases h
      · cases h; assumption
theorem Kp.grown {a w w' : World} {e : TypeId} {n k : Nat} {v : Value} {xs : List Value} (h : Kp (fun _ => False) a w) (ho : w.ownsRow a.heap.size e n v k xs) (hg : w.grownBy w' v.ownBlock) : Kp (fun _ => False) a w' := by
  refine ⟨hg.os.trans h.os, hg.tape.trans h.tape, hg.output.trans h.output, Nat.le_trans h.size hg.size, fun x hx _ => ?_⟩
  rw [hg.block x (Nat.lt_of_lt_of_le hx h.size) ?_, h.block x hx id]
  intro he
  rcases ho.2 with ⟨rfl, _⟩ | ⟨g, cap, cur, rfl, hb, _⟩
  · cases he
  · have h9 : x = g := Option.some.inj he
    omega
theorem impl_neg (F : Interp) (s : ByteArray) (pe : Addr) (m : Int) (md : Md) (ent nc sho : Bool) (w : World) (hm : Mo m md) (hx : Mx m ent nc sho) (hp : RPre F s pe w) (hg : w.cell? ⟨gT, 0, none⟩ = some hT0) (gs : List (Nat × Nat)) (hr : regexpM md ent nc sho s = .neg gs) :
    Calls Tryz.prog 7 #[.string s, .int .u64 m] w (ImplPost (.neg gs) w) := by
  have hne := regexpM_neg hr
  have HR := regexp_walk F s pe m md ent nc sho w hm hx hp
  rw [hr] at HR
  have H := Lib.hid HR
  have HG := Lib.hid hg
  have hs42 := hp.hs
  clear HR hr hm hx hp hg
  go_enter Tryz.func7, Tryz.ntmps7
  go_wp2_with fail
  refine H.out.mono ?_
  rintro e w1 ⟨hb, p, gv, rfl, hp, hown, hlen⟩
  have hpl : p < w1.heap.size := (Array.getElem?_eq_some_iff.1 hp).1
  have hgl : gT < w.heap.size := World.block_lt_of_cell? _ _ HG.out
  obtain ⟨V, hV⟩ : ∃ V, w1.alloc (.cells #[.pointer none] 53) = V := ⟨_, rfl⟩
  have kV : Kp (fun _ => False) w1 V := by rw [← hV]; exact (Kp.refl _ _).alloc _
  have vS : V.heap.size = w1.heap.size + 1 := by rw [← hV]; simp
  have vN : V.heap[w1.heap.size]? = some (.cells #[.pointer none] 53 (0, 0)) := by rw [← hV]; exact heap_alloc_new w1 _
  have hg1 : V.cell? ⟨gT, 0, none⟩ = some hT0 := kV.cell id ((Kp.of_below (X := fun _ => False) hb).cell id HG.out)
  have HA := Lib.hid (as_hit ⟨p, 0, none⟩ ⟨w1.heap.size, 0, none⟩ (.pointer none) V hg1 (by rw [Lib.cell_of_heap vN]; rfl) (Lib.frozen_of_heap vN 0))
  obtain ⟨q, cap, rfl, hqB, hql, hqc⟩ := own_cells hown hne
  have HB := Lib.hid hb
  have HP := Lib.hid hp
  have HQ := Lib.hid hqc
  clear hb H hown HG hgl hp hqc
  go_wp2_with fail
  refine HA.out.mono ?_
  rintro e w2 ⟨rfl, hw2⟩
  have k2 : Kp (· = w1.heap.size) V w2 := by
    rw [hw2]
    exact Kp.setCell (X := (· = w1.heap.size)) (p := ⟨w1.heap.size, 0, none⟩) (((((Kp.refl _ _).alloc _).alloc _).alloc _).alloc _) (.inl rfl) _
  have cN : w2.cell? ⟨w1.heap.size, 0, none⟩ = some (.pointer (some ⟨p, 0, none⟩)) := by
    rw [hw2]
    have h4 : ((((V.alloc (.cells #[.pointer (some ⟨w1.heap.size, 0, none⟩)] tNN)).alloc (.cells #[.pointer (some ⟨nG, tNN, none⟩), .pointer (some ⟨V.heap.size, 0, none⟩), .int .u64 150] tVal)).alloc (.cells #[.pointer (some ⟨nG, tNN, none⟩), .pointer (some ⟨V.heap.size, 0, none⟩), .int .u64 150] tVal)).alloc (.cells #[.pointer (some ⟨p, 0, none⟩)] tN)).heap[w1.heap.size]? = some (.cells #[.pointer none] 53 (0, 0)) :=
      Kp.heap (X := fun _ => False) ((((Kp.refl _ V).alloc _).alloc _).alloc _ |>.alloc _) id vN
    rw [Lib.cell_of_heap (heap_setCell_row h4)]; rfl
  have hne1 : p ≠ w1.heap.size := by omega
  have cP : w2.cell? ⟨p, 0, none⟩ = some (.slice (some ⟨q, 0, none⟩) gs.length cap) := by
    rw [Lib.cell_of_heap (k2.heap (by show ¬ p = w1.heap.size; omega) (kV.heap id HP.out))]; rfl
  have HQ2 : Hid (∀ k (hk : k < gs.length), w2.cell? ⟨q, k * 2, none⟩ = some (.int .i64 (gs[k].1 : Int)) ∧ w2.cell? ⟨q, k * 2 + 1, none⟩ = some (.int .i64 (gs[k].2 : Int))) :=
    Lib.hid fun k hk => ⟨k2.cell (by show ¬ q = w1.heap.size; omega) (kV.cell id (HQ.out k hk).1), k2.cell (by show ¬ q = w1.heap.size; omega) (kV.cell id (HQ.out k hk).2)⟩
  have HW : Hid (Below w.heap.size w w2) := Lib.hid (HB.out.trans ((kV.false_mono.trans k2 : Kp (· = w1.heap.size) w1 w2).below HB.out.size (fun k hk => by have := HB.out.size; show ¬ k = w1.heap.size; omega)))
  have q2 : q < w2.heap.size := by have := k2.size; omega
  clear HA k2 hw2 vN kV hg1 HQ HP HB hV vS
  go_upto_region 8 with fail
  obtain ⟨W4, hW4⟩ : ∃ W4, w2.alloc (.cells #[] tIG) = W4 := ⟨_, rfl⟩
  have k4 : Kp (fun _ => False) w2 W4 := by rw [← hW4]; exact (Kp.refl _ _).alloc _
  have o4 : W4.ownsRow w2.heap.size tIG 2 (.slice (some ⟨w2.heap.size, 0, none⟩) 0 0) 0 [] := by rw [← hW4]; exact own_empty w2 w2 (Nat.le_refl _)
  have K4 := Lib.hid k4
  have O4 := Lib.hid o4
  have cN4 := k4.cell id cN
  have cP4 := k4.cell id cP
  rw [hW4]
  clear hW4 k4 o4 cN cP
  obtain ⟨i0, hi0, hz0, hz1, hz2⟩ := info_parts infoIG
  go_wp2
  go_loopg [10, 34] gs.length (fun g s10 s34 wx => ∃ k : Nat, k + g = gs.length ∧ s34 = .int .i64 k ∧ wx.ownsRow w2.heap.size tIG 2 s10 k (grCells (gs.take k)) ∧ Kp (fun _ => False) w2 wx)
  case atStart => exact ⟨0, by omega, rfl, O4.out, K4.out⟩
  case round =>
    obtain ⟨k, hkg, rfl, hO, hK⟩ := hrel
    cases gk with
    | zero =>
      obtain rfl : k = gs.length := by omega
      have HO := Lib.hid hO
      have HK := Lib.hid hK
      clear hO hK
      go_wp2
      go_ret3
      exact ⟨HW.out.trans ((Kp.below HK.out (Nat.le_refl _) (fun _ _ => id)).mono HW.out.size), _, rfl, by
        have := ownsRow.le HO.out HW.out.size
        rwa [List.take_of_length_le (Nat.le_refl _)] at this⟩
    | succ g =>
      have hk : k < gs.length := by omega
      have c0 := hK.cell id (HQ2.out k hk).1
      have c1 := hK.cell id (HQ2.out k hk).2
      have i0' : (k : Int) < (gs.length : Int) := by omega
      have i1 : (0 : Int) ≤ (k : Int) := by omega
      have HO := Lib.hid hO
      have HK := Lib.hid hK
      clear hO hK
      have hks := HK.out.size
      have hgk : grCells (gs.take (k + 1)) = grCells (gs.take k) ++ [.int .i64 (gs[k].1 : Int), .int .i64 (gs[k].2 : Int)] := by
        rw [List.take_add_one, List.getElem?_eq_getElem hk]; exact grCells_snoc _ _
      have HGK := Lib.hid hgk
      clear hgk
      generalize (gs[k].1 : Int) = ga at *
      generalize (gs[k].2 : Int) = gb at *
      go_wp2_with (at_builtin; refine wpList_append_own _ rfl _ _ 23 rfl w2.heap.size tIG i0 (.agg #[.int .i64 0, .int .i64 0]) 2 16 Tryz.underlying23 hi0 hz0 hz1 hz2 rfl (by decide) _ k _ rfl ((HO.out.alloc _).alloc _) ⟨wr.heap.size + 1, 0, none⟩ 1 1 [.int .i64 ga, .int .i64 gb] rfl rfl ?c1 ?c2 ?c3 ?c4 ?c5 ?_)
      case c1 =>
        have hn : ((wr.alloc (.cells #[.int .i64 ga, .int .i64 gb] tG)).alloc (.cells #[.int .i64 ga, .int .i64 gb] tIG)).heap[wr.heap.size + 1]? = some (.cells #[.int .i64 ga, .int .i64 gb] tIG (0, 0)) := by
          have := heap_alloc_new (wr.alloc (.cells #[.int .i64 ga, .int .i64 gb] tG)) (.cells #[.int .i64 ga, .int .i64 gb] tIG)
          simpa using this
        intro j u hu
        match j, hu with
        | 0, hu => simp at hu; subst hu; exact (Lib.cell_of_heap hn _).trans rfl
        | 1, hu => simp at hu; subst hu; exact (Lib.cell_of_heap hn _).trans rfl
      case c2 => simp [Value.oneCell']
      case c3 => unfold maxLen; omega
      case c4 => omega
      case c5 => simp; omega
      intro v' w6 hown' hgrow hnn
      have HR : Hid (∃ k2 : Nat, k2 + g = gs.length ∧ Value.int .i64 ((k : Int) + 1) = .int .i64 k2 ∧ w6.ownsRow w2.heap.size tIG 2 v' k2 (grCells (gs.take k2)) ∧ Kp (fun _ => False) w2 w6) :=
        Lib.hid ⟨k + 1, by omega, rfl, by rw [HGK.out]; exact hown', ((HK.out.alloc _).alloc _).grown ((HO.out.alloc _).alloc _) hgrow⟩
      clear hown' hgrow hnn HO HK HGK
      go_wp2_with fail
      go_roundg g
      case measure => omega
      case rel => exact HR.out
end Go.Proofs.YtpfgmiocdgfniaaGreatFmt

namespace Go.Proofs.YtpfgmiocdgfniaaGreatFmt
open Go.RowKit Go.Extern.Stop Go.Stop Go.Extern
open Re (Fo G nodeE mean falses trues foundE)
structure LW (F : Interp) (pe : Addr) (w : World) : Prop where
  T : Tabs w
  E : w.cell? ⟨gE, 0, none⟩ = some (eofV pe)
  F : F.answers w.tape
  gB : GG w.heap.size
  hT : w.cell? ⟨gT, 0, none⟩ = some hT0
  ct : CT w
theorem LW.below {F : Interp} {pe : Addr} {w w' : World} (h : LW F pe w) (hb : Below w.heap.size w w') : LW F pe w' := by
  have k := Kp.of_below (X := fun _ => False) hb
  exact ⟨⟨fun c hc => k.cell id (h.T.1 c hc), fun i hi => ⟨k.cell id (h.T.2 i hi).1, k.cell id (h.T.2 i hi).2⟩⟩, k.cell id h.E, by rw [k.tape]; exact h.F, h.gB.mono hb.size, k.cell id h.hT, h.ct.kept k (fun _ h => h.elim)⟩
theorem LW.pre {F : Interp} {pe : Addr} {w : World} (h : LW F pe w) (s : ByteArray) (hs : s.size ≤ 4398046511104) : RPre F s pe w := ⟨h.T, h.E, h.F, hs, h.gB⟩
theorem impl_any (F : Interp) (s : ByteArray) (pe : Addr) (m : Int) (md : Md) (ent nc sho : Bool) (w : World) (hm : Mo m md) (hx : Mx m ent nc sho) (h : LW F pe w) (hs : s.size ≤ 4398046511104) :
    Calls Tryz.prog 7 #[.string s, .int .u64 m] w (ImplPost (regexpM md ent nc sho s) w) := by
  cases hr : regexpM md ent nc sho s with
  | ok t => exact impl_ok F s pe m md ent nc sho w hm hx (h.pre s hs) t hr
  | neg gs => exact impl_neg F s pe m md ent nc sho w hm hx (h.pre s hs) h.hT gs hr
  | syn => exact impl_syn F s pe m md ent nc sho w hm hx (h.pre s hs) h.hT hr
def md0 : Md := ⟨false, false, false, false⟩
theorem mo0 : Mo 0 md0 := ⟨rfl, rfl, rfl, rfl, rfl⟩
theorem mx0 : Mx 0 false false false := ⟨rfl, rfl, rfl, rfl⟩
theorem reg_a : regexpM md0 false false false ⟨#[97]⟩ = .ok [97] := by
  unfold regexpM
  rw [if_pos ⟨rfl, by kernel_rfl⟩]
def reA : G := .ato (.lit 97) .one .done
theorem reA_alt : AltOK reA := alt_of reA (rounds_ok reA (.inl rfl) (.inl rfl))
theorem fnd_a : foundE [97] 3 Re.no128 (Re.lists reA false false) 0 0 = true := by kernel_rfl
theorem fnd_b : foundE [98] 3 Re.no128 (Re.lists reA false false) 0 0 = false := by kernel_rfl
attribute [local go_sem ↓] ld_eq st_eq
attribute [local go_sem] run_ldAt run_stRe
theorem works_any (F : Interp) (pe : Addr) (w : World) (h : LW F pe w) : Calls Tryz.prog 14 #[] w fun e w' => e = .returned (.bool true) ∧ Below w.heap.size w w' := by
  have hz := zeroRe
  have H1 := impl_any F ⟨#[97]⟩ pe 0 md0 false false false w mo0 mx0 h (by decide)
  rw [reg_a] at H1
  have HI := Lib.hid H1
  clear H1 h
  go_enter Tryz.func14, Tryz.ntmps14
  go_wp2_with fail
  refine HI.out.mono ?_
  rintro e w1 ⟨hb, gv, rfl, _⟩
  have HB := Lib.hid hb
  have HR := Lib.hid (read_walk reA reA_alt ⟨#[97]⟩ w1 (by decide) (by rfl) (by rfl) (.inl rfl))
  clear hb HI
  go_wp2_with fail
  refine HR.out.mono ?_
  rintro e w2 ⟨c, rfl, hn, hb2⟩
  have hcs := hn.size
  have n3 : nodeAt (w2.alloc (.cells reZ tRe)) (.pointer (some ⟨w2.heap.size, 0, none⟩)) := ⟨_, reZ, rfl, heap_alloc_new w2 _, rfl⟩
  have n4 : oneNode (.agg c) := ⟨c, rfl, hcs, hn.oneC⟩
  have HN := Lib.hid hn
  have HB2 := Lib.hid (HB.out.trans (hb2.mono HB.out.size))
  clear hn hb2 HR
  go_upto_region 3 with fail
  clear n3 n4
  simp only [blkOf, World.setRow_alloc_new]
  obtain ⟨p1, p2⟩ := box_at (w := w2) hcs
  obtain ⟨W3, hW3⟩ : ∃ W3, w2.alloc (.cells c tRe) = W3 := ⟨_, rfl⟩
  have k3 : Kp (fun _ => False) w2 W3 := by rw [← hW3]; exact (Kp.refl _ _).alloc _
  have b3 : W3.heap[w2.heap.size]? = some (.cells c tRe (0, 0)) := by rw [← hW3]; exact heap_alloc_new w2 _
  rw [hW3] at p1 p2
  rw [hW3]
  clear hW3
  have N3 : Hid (Nd (fun _ => True) W3 3 Re.no128 (Re.lists reA false false) 0 0 c) := Lib.hid ((HN.out.mono (fun _ _ _ => trivial)).kept k3 (fun _ _ => id))
  have H3 := Lib.hid (HB2.out.trans ((Kp.below k3 (Nat.le_refl _) (fun _ _ => id)).mono HB2.out.size))
  have F1 := Lib.hid (found_walk 3 Re.no128 (Re.lists reA false false) 0 0 (root_ok reA false false) W3 c ⟨#[97]⟩ N3.out (by decide))
  have B3 := Lib.hid b3
  clear k3 b3 HN HB2
  go_wp2_with fail
  refine F1.out.mono ?_
  rintro e w4 ⟨rfl, hb4⟩
  have k4 := Kp.of_below (X := fun _ => False) hb4
  have b4 := k4.heap id B3.out
  have q1 : reOk w4 (.pointer (some ⟨w2.heap.size, 0, none⟩)) := ⟨_, 0, c, rfl, b4, by omega⟩
  have q2 : reAt w4 (.pointer (some ⟨w2.heap.size, 0, none⟩)) = c := by
    rw [reAt_eq b4, List.drop_zero, List.take_of_length_le (by simp; omega)]
  have H4 := Lib.hid (H3.out.trans (hb4.mono H3.out.size))
  have F2 := Lib.hid (found_walk 3 Re.no128 (Re.lists reA false false) 0 0 (root_ok reA false false) w4 c ⟨#[98]⟩ (N3.out.kept k4 (fun _ _ => id)) (by decide))
  have ea : foundE (ByteArray.mk #[97]).data.toList 3 Re.no128 (Re.lists reA false false) 0 0 = true := fnd_a
  have eb : foundE (ByteArray.mk #[98]).data.toList 3 Re.no128 (Re.lists reA false false) 0 0 = false := fnd_b
  rw [ea]
  clear hb4 k4 b4 F1 B3 p1 p2 N3 H3
  go_wp2_with fail
  refine F2.out.mono ?_
  rintro e w5 ⟨rfl, hb5⟩
  have H5 := Lib.hid (H4.out.trans (hb5.mono H4.out.size))
  rw [eb]
  clear hb5 F2
  go_wp2_with fail
  go_ret
  exact ⟨rfl, H5.out⟩
end Go.Proofs.YtpfgmiocdgfniaaGreatFmt

namespace Go.Proofs.YtpfgmiocdgfniaaGreatFmt
open Go.RowKit Go.Extern.Stop Go.Stop Go.Extern
def rT : RO → ByteArray
  | .ok t => ⟨t.toArray⟩
  | _ => ⟨#[]⟩
def rK : RO → Int
  | .ok _ => 0
  | .neg _ => 1
  | .syn => 2
def rN : RO → Nat
  | .neg gs => gs.length
  | _ => 0
theorem own_form {w : World} {B n k : Nat} {e : TypeId} {v : Value} {xs : List Value} (h : w.ownsRow B e n v k xs) : ∃ a cap, v = .slice a k cap := by
  rcases h.2 with ⟨rfl, rfl⟩ | ⟨g, cap, cur, rfl, _⟩
  · exact ⟨none, 0, rfl⟩
  · exact ⟨_, cap, rfl⟩
theorem ImplPost.out {r : RO} {w w' : World} {e : Ending} (h : ImplPost r w e w') : Below w.heap.size w w' ∧ ∃ a cap, e = .returned (.tuple #[.string (rT r), .int .i64 (rK r), .slice a (rN r) cap]) := by
  obtain ⟨hb, gv, h⟩ := h
  refine ⟨hb, ?_⟩
  cases r with
  | ok t => obtain ⟨rfl, ho⟩ := h; obtain ⟨a, cap, rfl⟩ := own_form ho; exact ⟨a, cap, rfl⟩
  | neg gs => obtain ⟨rfl, ho⟩ := h; obtain ⟨a, cap, rfl⟩ := own_form ho; exact ⟨a, cap, rfl⟩
  | syn => obtain ⟨rfl, ho⟩ := h; obtain ⟨a, cap, rfl⟩ := own_form ho; exact ⟨a, cap, rfl⟩
theorem bits_zero (m : Int) (k : Nat) (hk : k < 16384) : (bits BinOp.and IntKind.u64 m (k : Int) == 0) = decide ((BitVec.ofInt 64 m).toNat &&& k = 0) := by
  have hlt : (BitVec.ofInt 64 m).toNat &&& k < 16384 := Nat.lt_of_le_of_lt Nat.and_le_right hk
  have e : bits BinOp.and IntKind.u64 m (k : Int) = (((BitVec.ofInt 64 m).toNat &&& k : Nat) : Int) := by
    simp only [bits, BitVec.toNat_and]
    have h2 : (BitVec.ofInt IntKind.u64.bits (k : Int)).toNat = k := by
      show (BitVec.ofInt 64 (k : Int)).toNat = k
      rw [BitVec.ofInt_natCast, BitVec.toNat_ofNat, Nat.mod_eq_of_lt (by omega)]
    rw [h2]
    show IntKind.u64.wrap (((BitVec.ofInt 64 m).toNat &&& k : Nat) : Int) = _
    rw [IntKind.wrap_u64]
    omega
  rw [e]
  by_cases h : (BitVec.ofInt 64 m).toNat &&& k = 0
  · rw [h]; rfl
  · simp only [h, decide_false, beq_eq_false_iff_ne, ne_eq]
    omega
def mdOf (m : Int) : Md := ⟨bits BinOp.and IntKind.u64 m 64 != 0, bits BinOp.and IntKind.u64 m 2 != 0, bits BinOp.and IntKind.u64 m 16 != 0, bits BinOp.and IntKind.u64 m 32 != 0⟩
theorem nbne (a b : Int) : (a == b) = !(a != b) := by simp [bne]
theorem mo_of (m : Int) : Mo m (mdOf m) := ⟨rfl, rfl, nbne _ _, nbne _ _, nbne _ _⟩
theorem mx_of (m : Int) : Mx m (bits BinOp.and IntKind.u64 m 4 != 0) (bits BinOp.and IntKind.u64 m 8 != 0) (bits BinOp.and IntKind.u64 m 1 != 0) := by
  refine ⟨?_, rfl, rfl, rfl⟩
  have e4 := bits_zero m 4 (by decide)
  have e8 := bits_zero m 8 (by decide)
  have e12 := bits_zero m 12 (by decide)
  have hd : (BitVec.ofInt 64 m).toNat &&& 12 = ((BitVec.ofInt 64 m).toNat &&& 4) ||| ((BitVec.ofInt 64 m).toNat &&& 8) := by
    rw [← Nat.and_or_distrib_left]
    rfl
  show (bits BinOp.and IntKind.u64 m ((12 : Nat) : Int) == 0) = !(!(bits BinOp.and IntKind.u64 m ((4 : Nat) : Int) == 0) || !(bits BinOp.and IntKind.u64 m ((8 : Nat) : Int) == 0))
  rw [e4, e8, e12, hd]
  by_cases h4 : (BitVec.ofInt 64 m).toNat &&& 4 = 0 <;> by_cases h8 : (BitVec.ofInt 64 m).toNat &&& 8 = 0 <;> simp [*, Nat.or_eq_zero_iff]
noncomputable abbrev rOf (m : Int) (s : ByteArray) : RO := regexpM (mdOf m) (bits BinOp.and IntKind.u64 m 4 != 0) (bits BinOp.and IntKind.u64 m 8 != 0) (bits BinOp.and IntKind.u64 m 1 != 0) s
theorem impl_of (F : Interp) (s : ByteArray) (pe : Addr) (m : Int) (w : World) (h : LW F pe w) (hs : s.size ≤ 4398046511104) :
    Calls Tryz.prog 7 #[.string s, .int .u64 m] w fun e w' => ∃ a cap, e = .returned (.tuple #[.string (rT (rOf m s)), .int .i64 (rK (rOf m s)), .slice a (rN (rOf m s)) cap]) ∧ Below w.heap.size w w' :=
  (impl_any F s pe m (mdOf m) _ _ _ w (mo_of m) (mx_of m) h hs).mono fun e w' hh => by
    obtain ⟨hb, a, cap, he⟩ := hh.out
    exact ⟨a, cap, he, hb⟩
end Go.Proofs.YtpfgmiocdgfniaaGreatFmt

namespace Go.Proofs.YtpfgmiocdgfniaaGreatFmt
open Go.RowKit Go.Extern.Stop Go.Stop Go.Extern
open Re (Fo G nodeE mean falses trues foundE fnd)
theorem alt_g (g : G) (hC : noC g = true) : AltOK g := alt_of g (rounds_ok g (.inl hC) (.inr flg_ok))
theorem read_g (g : G) (hC : noC g = true) (hok : g.ok = true) (hl : (Re.pr g).length ≤ 274877906944) (w : World) :
    Calls Tryz.prog 9 #[.string ⟨(bs (Re.pr g)).toArray⟩] w fun e w' => ∃ c, e = .returned (.tuple #[.agg c, .bool true]) ∧ Nd (fun x => w.heap.size ≤ x) w' 3 Re.no128 (Re.lists g false false) 0 0 c ∧ Below w.heap.size w w' := by
  have hs : (ByteArray.mk (bs (Re.pr g)).toArray).size ≤ 274877906944 := by
    show (bs (Re.pr g)).toArray.size ≤ _
    simp [bs]; omega
  exact read_walk g (alt_g g hC) ⟨(bs (Re.pr g)).toArray⟩ w hs (by simp) hok (.inl hC)
theorem found_g (g : G) (w : World) (c : Array Value) (s : ByteArray) (hN : Nd (fun _ => True) w 3 Re.no128 (Re.lists g false false) 0 0 c) (hs : s.size ≤ 274877906944) :
    Calls Tryz.prog 10 #[.agg c, .string s] w fun e w' => e = .returned (.bool (fnd s.data.toList g)) ∧ Below w.heap.size w w' :=
  found_walk 3 Re.no128 (Re.lists g false false) 0 0 (root_ok g false false) w c s hN hs
theorem impl_g (F : Interp) (s : ByteArray) (pe : Addr) (m : Int) (md : Md) (ent nc sho : Bool) (w : World) (hm : Mo m md) (hx : Mx m ent nc sho) (h : LW F pe w) (hs : s.size ≤ 4398046511104) (g : G) (hr : regexpM md ent nc sho s = .ok (bs (Re.pr g))) :
    Calls Tryz.prog 7 #[.string s, .int .u64 m] w fun e w' => (∃ gv, e = .returned (.tuple #[.string ⟨(bs (Re.pr g)).toArray⟩, .int .i64 0, gv])) ∧ Below w.heap.size w w' := by
  refine (impl_ok F s pe m md ent nc sho w hm hx (h.pre s hs) _ hr).mono ?_
  rintro e w' ⟨hb, gv, he, _⟩
  exact ⟨⟨gv, he⟩, hb⟩
theorem ext_low (m : Int) (h0 : 0 ≤ m) (h1 : m < 64) : (mdOf m).ext = false := by
  show (bits BinOp.and IntKind.u64 m ((64 : Nat) : Int) != 0) = false
  have e := bits_zero m 64 (by decide)
  obtain ⟨n, rfl⟩ : ∃ n : Nat, m = n := ⟨m.toNat, by omega⟩
  have hn : n < 64 := by omega
  have e2 : (BitVec.ofInt 64 (n : Int)).toNat = n := by
    rw [BitVec.ofInt_natCast, BitVec.toNat_ofNat, Nat.mod_eq_of_lt (by omega)]
  rw [e2] at e
  have e3 : ∀ n, n < 64 → n &&& 64 = 0 := by decide
  rw [e3 n hn] at e
  rw [bne, e]; rfl
theorem wf_u {a : Int} (h : (Lit.int IntKind.u64 a).wf = true) : 0 ≤ a := by
  simp [Lit.wf, IntKind.min, IntKind.max, IntKind.signed, IntKind.bits] at h
  omega
theorem wf_b {a : Int} (h : (Lit.int IntKind.u8 a).wf = true) : 0 ≤ a ∧ a ≤ 255 := by
  simp [Lit.wf, IntKind.min, IntKind.max, IntKind.signed, IntKind.bits] at h
  omega
end Go.Proofs.YtpfgmiocdgfniaaGreatFmt
