/- Joined by pack.py: EnH, EnI, LawR. -/
import Derived.Test.YtjoefmnkbcoblaaFmtP33
import Derived.Laws.BitsLemmas
/- Walk: ends at each node of a text's tree; Found. -/
namespace Go.Proofs.YtjoefmnkbcoblaaFmt
open Go.RowKit
open Re (Fo G nodeE mean falses trues foundE)
set_option linter.unusedVariables false

/-- the trees that a reader makes -/
def good : Fo → Prop
  | .nil => True
  | .cons k _ kids l _ rest => (1 ≤ k ∧ k ≤ 6) ∧ (k = 4 → kids.len = 1 ∧ 0 ≤ l ∧ l ≤ 1) ∧ good kids ∧ good rest
theorem node_ok (k : Nat) (set : List Bool) (kids : Fo) (l m : Int) (h1 : 1 ≤ k ∧ k ≤ 6) (h4 : k = 4 → kids.len = 1 ∧ 0 ≤ l ∧ l ≤ 1) (hA : AllOK kids) : EndsOK k set kids l m := by
  obtain ⟨ha, hb⟩ := h1
  match k, ha, hb with
  | 1, _, _ => exact ends_set set kids l m
  | 2, _, _ => exact ends_seq set kids l m hA
  | 3, _, _ => exact ends_alt set kids l m hA
  | 4, _, _ => exact ends_times set kids l m hA (h4 rfl).1 (h4 rfl).2.1 (h4 rfl).2.2
  | 5, _, _ => exact ends_beg set kids l m
  | 6, _, _ => exact ends_fin set kids l m
theorem all_ok : ∀ F : Fo, good F → AllOK F
  | .nil, _ => trivial
  | .cons k set kids l m rest, ⟨h1, h4, hk, hr⟩ => ⟨node_ok k set kids l m h1 h4 (all_ok kids hk), all_ok rest hr⟩
theorem sfx_good (q : Re.Su) (k : Nat) (set : List Bool) (kids rest : Fo) (h1 : 1 ≤ k ∧ k ≤ 6) (h4 : k ≠ 4) (hk : good kids) (hr : good rest) : good (Re.sfx q k set kids rest) := by
  cases q <;> simp [Re.sfx, good, Fo.len, h1, h4, hk, hr]
theorem ms_good : ∀ (g : G) (f d : Bool), good (Re.ms g f d).1 ∧ good (Re.ms g f d).2
  | .done, _, _ => ⟨trivial, trivial⟩
  | .bar r, f, d => ⟨trivial, ⟨by omega, fun h => by omega, (ms_good r f d).1, (ms_good r f d).2⟩⟩
  | .ato a q r, f, d => by
    refine ⟨sfx_good q _ _ .nil _ ?_ ?_ trivial (ms_good r f d).1, (ms_good r f d).2⟩ <;> cases a <;> simp [Re.ndA]
  | .grp i q r, f, d => ⟨sfx_good q 3 _ _ _ (by omega) (by omega) ⟨by omega, fun h => by omega, (ms_good i f d).1, (ms_good i f d).2⟩ (ms_good r f d).1, (ms_good r f d).2⟩
  | .flg i u r, f, d => ⟨⟨by omega, fun h => by omega, trivial, (ms_good r (f || i) true).1⟩, (ms_good r (f || i) true).2⟩
theorem lists_good (g : G) (f d : Bool) : good (Re.lists g f d) := ⟨by omega, fun h => by omega, (ms_good g f d).1, (ms_good g f d).2⟩
theorem root_ok (g : G) (f d : Bool) : EndsOK 3 Re.no128 (Re.lists g f d) 0 0 := node_ok 3 _ _ 0 0 (by omega) (fun h => by omega) (all_ok _ (lists_good g f d))
theorem any_take (R : List Bool) (i : Nat) (hi : i < R.length) (h : (R.take i).any id = false) (h2 : R[i] = false) : (R.take (i + 1)).any id = false := by
  rw [List.take_add_one, List.getElem?_eq_getElem hi, List.any_append, h, h2]; rfl
theorem any_of (R : List Bool) (i : Nat) (hi : i < R.length) (h2 : R[i] = true) : R.any id = true := List.any_eq_true.2 ⟨R[i], List.getElem_mem hi, h2⟩
attribute [local go_sem ↓] mk_eq ld_eq st_eq
attribute [local go_sem] run_mkB1 run_ldAt run_stRe
set_option maxHeartbeats 2000000 in
set_option maxRecDepth 100000 in
theorem found_walk (k : Nat) (set : List Bool) (kids : Fo) (l m : Int) (hOK : EndsOK k set kids l m) (w : World) (c : Array Value) (s : ByteArray) (hN : Nd (fun _ => True) w k set kids l m c) (hs : s.size ≤ 274877906944) :
    Calls Tryf.prog 19 #[.agg c, .string s] w fun e w' => e = .returned (.bool (foundE s.data.toList k set kids l m)) ∧ Below w.heap.size w w' := by
  have hE := Lib.hid (En.start c s.size w)
  have hc := hN.size
  have HN := Lib.hid hN
  have HOK := Lib.hid hOK
  have HF : Hid (foundE s.data.toList k set kids l m = (nodeE s.data.toList k set (mean s.data.toList kids) l m (trues (s.size + 1))).any id) := Lib.hid (by
    show (nodeE s.data.toList k set (mean s.data.toList kids) l m (trues (s.data.toList.length + 1))).any id = _
    rw [Pat.size_toList])
  clear hN hOK
  go_enter Tryf.func19, Tryf.ntmps19
  go_upto_region 2 with fail
  obtain ⟨V, hV⟩ : ∃ V, (w.alloc (.cells c tRe)).alloc (.cells (Array.replicate (s.size + 1) (.bool false)) 4) = V := ⟨_, rfl⟩
  rw [hV] at hE
  rw [hV]
  clear hV
  have htl : (trues (s.size + 1)).length = s.size + 1 := by simp [trues]
  go_wp2
  go_loopg [15] (s.size + 1) (fun g s15 wx => ∃ i : Nat, i + g = s.size + 1 ∧ s15 = .int .i64 i ∧ Kp (fun x => x = w.heap.size + 1) V wx ∧ wx.heap[w.heap.size + 1]? = some (.cells (part (trues (s.size + 1)) i) 4 (0, 0)))
  case atStart => exact ⟨0, by omega, rfl, Kp.refl _ _, hE.out.part _ htl⟩
  case round =>
    obtain ⟨i, hig, rfl, hK, hH⟩ := hrel
    cases gk with
    | zero =>
      obtain rfl : i = s.size + 1 := by omega
      have hgb := hK.heap (by show ¬ w.heap.size = w.heap.size + 1; omega) hE.out.box
      have n1 : reOk wr (.pointer (some ⟨w.heap.size, 0, none⟩)) := ⟨_, _, _, rfl, hgb, by omega⟩
      have n2 : reAt wr (.pointer (some ⟨w.heap.size, 0, none⟩)) = c := by
        rw [reAt_eq hgb, List.drop_zero, List.take_of_length_le (by simp; omega)]
      have hk2 : Kp (fun x => x = w.heap.size + 1) w wr := hE.out.kp.false_mono.trans hK
      have hblo : Below w.heap.size w wr := hk2.below (Nat.le_refl _) (fun q hq => by show ¬ q = w.heap.size + 1; omega)
      have hbl : BL wr (w.heap.size + 1) (.slice (some ⟨w.heap.size + 1, 0, none⟩) (s.size + 1) (s.size + 1)) (trues (s.size + 1)) := BL.of_row (t := 4) (by rw [htl]; exact hH) htl.symm
      have HC := Lib.hid (HOK.out wr c s _ _ _ (HN.out.kept (Kp.of_below (X := fun _ => False) hblo) (fun _ _ => id)) hbl htl hs)
      have HBL := Lib.hid hblo
      have hlen := nodeE_len s k set kids l m (trues (s.size + 1)) htl
      generalize nodeE s.data.toList k set (mean s.data.toList kids) l m (trues (s.size + 1)) = R at *
      clear hH hK hgb hk2 hblo hbl htl
      go_wp2_with fail
      refine HC.out.mono ?_
      rintro e w2 ⟨r, b2, rfl, hBL2, hbw⟩
      have HW := Lib.hid (HBL.out.trans (hbw.mono HBL.out.size))
      obtain ⟨⟨cp, rfl⟩, h1, h2⟩ := hBL2
      clear hbw HC HBL
      have hrl : R.length ≤ 274877906945 := by omega
      go_wp2_with fail
      go_loopg [27] R.length (fun g s27 wx => ∃ i : Nat, i + g = R.length ∧ s27 = .int .i64 i ∧ (R.take i).any id = false ∧ wx = w2)
      case atStart => exact ⟨0, by omega, rfl, by simp, rfl⟩
      case round =>
        obtain ⟨i, hig, rfl, hno, rfl⟩ := hrel
        cases gk with
        | zero =>
          obtain rfl : i = R.length := by omega
          have hany : R.any id = false := by rw [List.take_of_length_le (Nat.le_refl _)] at hno; exact hno
          clear hno
          go_wp2
          go_ret
          exact ⟨by rw [HF.out, hany]; rfl, HW.out⟩
        | succ g =>
          have hi : i < R.length := by omega
          have i0 : (i : Int) < (R.length : Int) := by omega
          have i1 : (0 : Int) ≤ (i : Int) := by omega
          have g1 := range_bl h1 i hi
          generalize hz : R[i] = z at g1
          cases z
          · go_wp2
            go_roundg g
            case measure => omega
            case rel => exact ⟨i + 1, by omega, by go_num, any_take R i hi hno hz, rfl⟩
          · clear hno
            go_wp2
            go_ret
            exact ⟨by rw [HF.out, any_of R i hi hz]; rfl, HW.out⟩
    | succ g =>
      have i0 : (i : Int) < (s.size : Int) + 1 := by omega
      have i1 : (0 : Int) ≤ (i : Int) := by omega
      have g2 : wr.cell? ⟨w.heap.size + 1, i, none⟩ = some (.bool false) := by
        rw [Lib.cell_of_heap hH]; exact part_old _ i (by omega)
      have g4 : wr.frozen? ⟨w.heap.size + 1, i, none⟩ = false := Lib.frozen_of_heap hH i
      go_wp2
      go_roundg g
      case measure => omega
      case rel => exact ⟨i + 1, by omega, by go_num, hK.setCell (.inl rfl) _, by rw [heap_setCell_row hH, part_succ _ i (by omega) true (by simp [trues])]⟩
end Go.Proofs.YtjoefmnkbcoblaaFmt

/- Walk: impl.Regexp, all its ends; works. -/
namespace Go.Proofs.YtjoefmnkbcoblaaFmt
open Go.RowKit Go.Extern.Stop Go.Stop Go.Extern
open Re (Fo G nodeE mean falses trues foundE)
set_option linter.unusedVariables false

/-- what stands at the beginning of a law -/
structure LW (F : Interp) (pe : Addr) (w : World) : Prop where
  T : Tabs w
  E : w.cell? ⟨gE, 0, none⟩ = some (eofV pe)
  F : F.answers w.tape
  gB : GG w.heap.size
  hT : w.cell? ⟨gT, 0, none⟩ = some hT0
theorem LW.below {F : Interp} {pe : Addr} {w w' : World} (h : LW F pe w) (hb : Below w.heap.size w w') : LW F pe w' := by
  have k := Kp.of_below (X := fun _ => False) hb
  exact ⟨⟨fun c hc => k.cell id (h.T.1 c hc), fun i hi => ⟨k.cell id (h.T.2 i hi).1, k.cell id (h.T.2 i hi).2⟩⟩, k.cell id h.E, by rw [k.tape]; exact h.F, h.gB.mono hb.size, k.cell id h.hT⟩
theorem LW.pre {F : Interp} {pe : Addr} {w : World} (h : LW F pe w) (s : ByteArray) (hs : s.size ≤ 4398046511104) : RPre F s pe w := ⟨h.T, h.E, h.F, hs, h.gB⟩
theorem impl_any (F : Interp) (s : ByteArray) (pe : Addr) (m : Int) (md : Md) (ent nc sho : Bool) (w : World) (hm : Mo m md) (hx : Mx m ent nc sho) (h : LW F pe w) (hs : s.size ≤ 4398046511104) :
    Calls Tryf.prog 15 #[.string s, .int .u64 m] w (ImplPost (regexpM md ent nc sho s) w) := by
  cases hr : regexpM md ent nc sho s with
  | ok t => exact impl_ok F s pe m md ent nc sho w hm hx (h.pre s hs) t hr
  | neg gs => exact impl_neg F s pe m md ent nc sho w hm hx (h.pre s hs) h.hT gs hr
  | syn => exact impl_syn F s pe m md ent nc sho w hm hx (h.pre s hs) h.hT hr
def md0 : Md := ⟨false, false, false, false⟩
theorem mo0 : Mo 0 md0 := ⟨rfl, rfl, rfl, rfl, rfl⟩
theorem mx0 : Mx 0 false false false := ⟨rfl, rfl, rfl, rfl⟩
theorem reg_a : regexpM md0 false false false ⟨#[97]⟩ = .ok [97] := by
  unfold regexpM
  rw [if_pos ⟨rfl, by kernel_rfl⟩]
def reA : G := .ato (.lit 97) .one .done
theorem reA_alt : AltOK reA := alt_of reA (rounds_ok reA (.inl rfl) (.inl rfl))
theorem fnd_a : foundE [97] 3 Re.no128 (Re.lists reA false false) 0 0 = true := by kernel_rfl
theorem fnd_b : foundE [98] 3 Re.no128 (Re.lists reA false false) 0 0 = false := by kernel_rfl
attribute [local go_sem ↓] ld_eq st_eq
attribute [local go_sem] run_ldAt run_stRe
set_option maxHeartbeats 4000000 in
set_option maxRecDepth 100000 in
theorem works_any (F : Interp) (pe : Addr) (w : World) (h : LW F pe w) : Calls Tryf.prog 16 #[] w fun e w' => e = .returned (.bool true) ∧ Below w.heap.size w w' := by
  have hz := zeroRe
  have H1 := impl_any F ⟨#[97]⟩ pe 0 md0 false false false w mo0 mx0 h (by decide)
  rw [reg_a] at H1
  have HI := Lib.hid H1
  clear H1 h
  go_enter Tryf.func16, Tryf.ntmps16
  go_wp2_with fail
  refine HI.out.mono ?_
  rintro e w1 ⟨hb, gv, rfl, _⟩
  have HB := Lib.hid hb
  have HR := Lib.hid (read_walk reA reA_alt ⟨#[97]⟩ w1 (by decide) (by rfl) (by rfl))
  clear hb HI
  go_wp2_with fail
  refine HR.out.mono ?_
  rintro e w2 ⟨c, rfl, hn, hb2⟩
  have hcs := hn.size
  have n3 : nodeAt (w2.alloc (.cells reZ tRe)) (.pointer (some ⟨w2.heap.size, 0, none⟩)) := ⟨_, reZ, rfl, heap_alloc_new w2 _, rfl⟩
  have n4 : oneNode (.agg c) := ⟨c, rfl, hcs, hn.oneC⟩
  have HN := Lib.hid hn
  have HB2 := Lib.hid (HB.out.trans (hb2.mono HB.out.size))
  clear hn hb2 HR
  go_upto_region 3 with fail
  clear n3 n4
  simp only [blkOf, World.setRow_alloc_new]
  obtain ⟨p1, p2⟩ := box_at (w := w2) hcs
  obtain ⟨W3, hW3⟩ : ∃ W3, w2.alloc (.cells c tRe) = W3 := ⟨_, rfl⟩
  have k3 : Kp (fun _ => False) w2 W3 := by rw [← hW3]; exact (Kp.refl _ _).alloc _
  have b3 : W3.heap[w2.heap.size]? = some (.cells c tRe (0, 0)) := by rw [← hW3]; exact heap_alloc_new w2 _
  rw [hW3] at p1 p2
  rw [hW3]
  clear hW3
  have N3 : Hid (Nd (fun _ => True) W3 3 Re.no128 (Re.lists reA false false) 0 0 c) := Lib.hid ((HN.out.mono (fun _ _ _ => trivial)).kept k3 (fun _ _ => id))
  have H3 := Lib.hid (HB2.out.trans ((Kp.below k3 (Nat.le_refl _) (fun _ _ => id)).mono HB2.out.size))
  have F1 := Lib.hid (found_walk 3 Re.no128 (Re.lists reA false false) 0 0 (root_ok reA false false) W3 c ⟨#[97]⟩ N3.out (by decide))
  have B3 := Lib.hid b3
  clear k3 b3 HN HB2
  go_wp2_with fail
  refine F1.out.mono ?_
  rintro e w4 ⟨rfl, hb4⟩
  have k4 := Kp.of_below (X := fun _ => False) hb4
  have b4 := k4.heap id B3.out
  have q1 : reOk w4 (.pointer (some ⟨w2.heap.size, 0, none⟩)) := ⟨_, 0, c, rfl, b4, by omega⟩
  have q2 : reAt w4 (.pointer (some ⟨w2.heap.size, 0, none⟩)) = c := by
    rw [reAt_eq b4, List.drop_zero, List.take_of_length_le (by simp; omega)]
  have H4 := Lib.hid (H3.out.trans (hb4.mono H3.out.size))
  have F2 := Lib.hid (found_walk 3 Re.no128 (Re.lists reA false false) 0 0 (root_ok reA false false) w4 c ⟨#[98]⟩ (N3.out.kept k4 (fun _ _ => id)) (by decide))
  have ea : foundE (ByteArray.mk #[97]).data.toList 3 Re.no128 (Re.lists reA false false) 0 0 = true := fnd_a
  have eb : foundE (ByteArray.mk #[98]).data.toList 3 Re.no128 (Re.lists reA false false) 0 0 = false := fnd_b
  rw [ea]
  clear hb4 k4 b4 F1 B3 p1 p2 N3 H3
  go_wp2_with fail
  refine F2.out.mono ?_
  rintro e w5 ⟨rfl, hb5⟩
  have H5 := Lib.hid (H4.out.trans (hb5.mono H4.out.size))
  rw [eb]
  clear hb5 F2
  go_wp2_with fail
  go_ret
  exact ⟨rfl, H5.out⟩
end Go.Proofs.YtjoefmnkbcoblaaFmt

/- Walks: laws.FnRegexpFault, laws.FnRegexpTwice. -/
namespace Go.Proofs.YtjoefmnkbcoblaaFmt
open Go.RowKit Go.Extern.Stop Go.Stop Go.Extern
set_option linter.unusedVariables false

/-- what impl.Regexp tells -/
def rT : RO → ByteArray
  | .ok t => ⟨t.toArray⟩
  | _ => ⟨#[]⟩
def rK : RO → Int
  | .ok _ => 0
  | .neg _ => 1
  | .syn => 2
def rN : RO → Nat
  | .neg gs => gs.length
  | _ => 0
theorem own_form {w : World} {B n k : Nat} {e : TypeId} {v : Value} {xs : List Value} (h : w.ownsRow B e n v k xs) : ∃ a cap, v = .slice a k cap := by
  rcases h.2 with ⟨rfl, rfl⟩ | ⟨g, cap, cur, rfl, _⟩
  · exact ⟨none, 0, rfl⟩
  · exact ⟨_, cap, rfl⟩
theorem ImplPost.out {r : RO} {w w' : World} {e : Ending} (h : ImplPost r w e w') : Below w.heap.size w w' ∧ ∃ a cap, e = .returned (.tuple #[.string (rT r), .int .i64 (rK r), .slice a (rN r) cap]) := by
  obtain ⟨hb, gv, h⟩ := h
  refine ⟨hb, ?_⟩
  cases r with
  | ok t => obtain ⟨rfl, ho⟩ := h; obtain ⟨a, cap, rfl⟩ := own_form ho; exact ⟨a, cap, rfl⟩
  | neg gs => obtain ⟨rfl, ho⟩ := h; obtain ⟨a, cap, rfl⟩ := own_form ho; exact ⟨a, cap, rfl⟩
  | syn => obtain ⟨rfl, ho⟩ := h; obtain ⟨a, cap, rfl⟩ := own_form ho; exact ⟨a, cap, rfl⟩
/-- any mode -/
theorem bits_zero (m : Int) (k : Nat) (hk : k < 16384) : (bits BinOp.and IntKind.u64 m (k : Int) == 0) = decide ((BitVec.ofInt 64 m).toNat &&& k = 0) := by
  have hlt : (BitVec.ofInt 64 m).toNat &&& k < 16384 := Nat.lt_of_le_of_lt Nat.and_le_right hk
  have e : bits BinOp.and IntKind.u64 m (k : Int) = (((BitVec.ofInt 64 m).toNat &&& k : Nat) : Int) := by
    simp only [bits, BitVec.toNat_and]
    have h2 : (BitVec.ofInt IntKind.u64.bits (k : Int)).toNat = k := by
      show (BitVec.ofInt 64 (k : Int)).toNat = k
      rw [BitVec.ofInt_natCast, BitVec.toNat_ofNat, Nat.mod_eq_of_lt (by omega)]
    rw [h2]
    show IntKind.u64.wrap (((BitVec.ofInt 64 m).toNat &&& k : Nat) : Int) = _
    rw [IntKind.wrap_u64]
    omega
  rw [e]
  by_cases h : (BitVec.ofInt 64 m).toNat &&& k = 0
  · rw [h]; rfl
  · simp only [h, decide_false, beq_eq_false_iff_ne, ne_eq]
    omega
def mdOf (m : Int) : Md := ⟨bits BinOp.and IntKind.u64 m 64 != 0, bits BinOp.and IntKind.u64 m 2 != 0, bits BinOp.and IntKind.u64 m 16 != 0, bits BinOp.and IntKind.u64 m 32 != 0⟩
theorem nbne (a b : Int) : (a == b) = !(a != b) := by simp [bne]
theorem mo_of (m : Int) : Mo m (mdOf m) := ⟨rfl, rfl, nbne _ _, nbne _ _, nbne _ _⟩
theorem mx_of (m : Int) : Mx m (bits BinOp.and IntKind.u64 m 4 != 0) (bits BinOp.and IntKind.u64 m 8 != 0) (bits BinOp.and IntKind.u64 m 1 != 0) := by
  refine ⟨?_, rfl, rfl, rfl⟩
  have e4 := bits_zero m 4 (by decide)
  have e8 := bits_zero m 8 (by decide)
  have e12 := bits_zero m 12 (by decide)
  have hd : (BitVec.ofInt 64 m).toNat &&& 12 = ((BitVec.ofInt 64 m).toNat &&& 4) ||| ((BitVec.ofInt 64 m).toNat &&& 8) := by
    rw [← Nat.and_or_distrib_left]
    rfl
  show (bits BinOp.and IntKind.u64 m ((12 : Nat) : Int) == 0) = !(!(bits BinOp.and IntKind.u64 m ((4 : Nat) : Int) == 0) || !(bits BinOp.and IntKind.u64 m ((8 : Nat) : Int) == 0))
  rw [e4, e8, e12, hd]
  by_cases h4 : (BitVec.ofInt 64 m).toNat &&& 4 = 0 <;> by_cases h8 : (BitVec.ofInt 64 m).toNat &&& 8 = 0 <;> simp [*, Nat.or_eq_zero_iff]
noncomputable abbrev rOf (m : Int) (s : ByteArray) : RO := regexpM (mdOf m) (bits BinOp.and IntKind.u64 m 4 != 0) (bits BinOp.and IntKind.u64 m 8 != 0) (bits BinOp.and IntKind.u64 m 1 != 0) s
theorem impl_of (F : Interp) (s : ByteArray) (pe : Addr) (m : Int) (w : World) (h : LW F pe w) (hs : s.size ≤ 4398046511104) :
    Calls Tryf.prog 15 #[.string s, .int .u64 m] w fun e w' => ∃ a cap, e = .returned (.tuple #[.string (rT (rOf m s)), .int .i64 (rK (rOf m s)), .slice a (rN (rOf m s)) cap]) ∧ Below w.heap.size w w' :=
  (impl_any F s pe m (mdOf m) _ _ _ w (mo_of m) (mx_of m) h hs).mono fun e w' hh => by
    obtain ⟨hb, a, cap, he⟩ := hh.out
    exact ⟨a, cap, he, hb⟩
set_option maxHeartbeats 1000000 in
theorem walk_FnRegexpFault (F : Interp) (pe : Addr) (s : ByteArray) (m : Int) (w : World) (h : LW F pe w) (hs : s.size ≤ maxLen) :
    Calls Tryf.prog 12 #[.string s, .int .u64 m] w fun e w' => e = .returned (.bool true) ∧ Below w.heap.size w w' := by
  unfold maxLen at hs
  by_cases h1 : s.size ≤ 2147483647
  · have d1 : decide ((2147483647 : Int) < (s.size : Int)) = false := by simp; omega
    by_cases h2 : s.size ≤ 4000
    · have d2 : decide ((4000 : Int) < (s.size : Int)) = false := by simp; omega
      have HI := Lib.hid (impl_of F s pe m w h (by omega))
      have H := Lib.hid h
      have hkn : (rK (rOf m s) == 1) = decide (0 < rN (rOf m s)) := by
        cases hr : rOf m s with
        | ok t => rfl
        | syn => rfl
        | neg gs =>
          have hne := regexpM_neg hr
          have : 0 < gs.length := List.length_pos_iff.2 hne
          simp [rK, rN, this]
      generalize hK : rK (rOf m s) = k at *
      generalize hN : rN (rOf m s) = n at *
      clear h hK hN
      generalize hd3 : decide (0 < n) = b at hkn
      cases b
      all_goals
        go_enter Tryf.func12, Tryf.ntmps12
        go_wp2_with fail
        refine HI.out.mono ?_
        rintro e w1 ⟨a, cap, rfl, hb⟩
        have HW := Lib.hid (works_any F pe w1 (H.out.below hb))
        have HB := Lib.hid hb
        clear hb HI
        go_wp2_with fail
        refine HW.out.mono ?_
        rintro e w2 ⟨rfl, hb2⟩
        have HB2 := Lib.hid (HB.out.trans (hb2.mono HB.out.size))
        clear hb2 HW
        go_wp2_with fail
        go_ret
        exact ⟨rfl, HB2.out⟩
    · have d2 : decide ((4000 : Int) < (s.size : Int)) = true := by simp; omega
      clear h
      go_enter Tryf.func12, Tryf.ntmps12
      go_wp2
      go_ret
      exact ⟨rfl, Below.refl _ _⟩
  · have d1 : decide ((2147483647 : Int) < (s.size : Int)) = true := by simp; omega
    clear h
    go_enter Tryf.func12, Tryf.ntmps12
    go_wp2
    go_ret
    exact ⟨rfl, Below.refl _ _⟩
set_option maxHeartbeats 1000000 in
theorem walk_FnRegexpTwice (F : Interp) (pe : Addr) (s : ByteArray) (m : Int) (w : World) (h : LW F pe w) (hs : s.size ≤ maxLen) :
    Calls Tryf.prog 3 #[.string s, .int .u64 m] w fun e w' => e = .returned (.bool true) ∧ Below w.heap.size w w' := by
  unfold maxLen at hs
  by_cases h1 : s.size ≤ 2147483647
  · have d1 : decide ((2147483647 : Int) < (s.size : Int)) = false := by simp; omega
    by_cases h2 : s.size ≤ 4000
    · have d2 : decide ((4000 : Int) < (s.size : Int)) = false := by simp; omega
      have HI : Hid (∀ V, LW F pe V → Calls Tryf.prog 15 #[.string s, .int .u64 m] V fun e w' => ∃ a cap, e = .returned (.tuple #[.string (rT (rOf m s)), .int .i64 (rK (rOf m s)), .slice a (rN (rOf m s)) cap]) ∧ Below V.heap.size V w') := Lib.hid fun V hV => impl_of F s pe m V hV (by omega)
      have H := Lib.hid h
      generalize rK (rOf m s) = k at *
      generalize rN (rOf m s) = n at *
      generalize rT (rOf m s) = t at *
      clear h
      go_enter Tryf.func3, Tryf.ntmps3
      go_wp2_with fail
      refine (HI.out _ H.out).mono ?_
      rintro e w1 ⟨a, cap, rfl, hb⟩
      have H1 := Lib.hid (H.out.below hb)
      have HB := Lib.hid hb
      clear hb
      go_wp2_with fail
      refine (HI.out _ H1.out).mono ?_
      rintro e w2 ⟨a2, cap2, rfl, hb2⟩
      have HW := Lib.hid (works_any F pe w2 (H1.out.below hb2))
      have HB2 := Lib.hid (HB.out.trans (hb2.mono HB.out.size))
      clear hb2 HI H1 HB
      go_wp2_with fail
      refine HW.out.mono ?_
      rintro e w3 ⟨rfl, hb3⟩
      have HB3 := Lib.hid (HB2.out.trans (hb3.mono HB2.out.size))
      clear hb3 HW
      go_wp2_with fail
      go_ret
      exact ⟨rfl, HB3.out⟩
    · have d2 : decide ((4000 : Int) < (s.size : Int)) = true := by simp; omega
      clear h
      go_enter Tryf.func3, Tryf.ntmps3
      go_wp2
      go_ret
      exact ⟨rfl, Below.refl _ _⟩
  · have d1 : decide ((2147483647 : Int) < (s.size : Int)) = true := by simp; omega
    clear h
    go_enter Tryf.func3, Tryf.ntmps3
    go_wp2
    go_ret
    exact ⟨rfl, Below.refl _ _⟩
end Go.Proofs.YtjoefmnkbcoblaaFmt
