/- Joined by pack.py: EnI, LawR, LawS, LawV, LaidC. -/
import Derived.Test.YtonifkkdokaooaaFmtP43
import Derived.Test.YtonifkkdokaooaaFmtP16
import Derived.Laws.BitsLemmas
import Derived.Test.YtonifkkdokaooaaFmtP45
import Derived.Test.YtonifkkdokaooaaFmtP44
import Derived.Test.YtonifkkdokaooaaFmtP05
import Derived.Test.YtonifkkdokaooaaFmtP14
import Derived.Test.YtonifkkdokaooaaFmtP46
import Derived.Test.YtonifkkdokaooaaFmtP02
import Derived.Test.YtonifkkdokaooaaFmtCards
import Derived.Test.YtonifkkdokaooaaFmtTie
import Derived.Stop.LaidErr
import Derived.Lib.LaidU8
import Derived.PinnedBridge
import Derived.LaidHandle
import Derived.LaidMore
import Derived.LaidLaws
import Derived.ProofKit
import Derived.Carry
import Derived.Stop.Joined
import Derived.Stop.JoinedTold
import Derived.Stop.JoinedAt
import Derived.SevenTiedAt
import Derived.Deep.DeepWitnessRef
import Derived.Deep.DeepWitnessRowRef
/- Walk: impl.Regexp, all its ends; works. -/
namespace Go.Proofs.YtonifkkdokaooaaFmt
open Go.RowKit Go.Extern.Stop Go.Stop Go.Extern
open Re (Fo G nodeE mean falses trues foundE)
set_option linter.unusedVariables false

/-- what stands at the beginning of a law -/
structure LW (F : Interp) (pe : Addr) (w : World) : Prop where
  T : Tabs w
  E : w.cell? ⟨gE, 0, none⟩ = some (eofV pe)
  F : F.answers w.tape
  gB : GG w.heap.size
  hT : w.cell? ⟨gT, 0, none⟩ = some hT0
  ct : CT w
theorem LW.below {F : Interp} {pe : Addr} {w w' : World} (h : LW F pe w) (hb : Below w.heap.size w w') : LW F pe w' := by
  have k := Kp.of_below (X := fun _ => False) hb
  exact ⟨⟨fun c hc => k.cell id (h.T.1 c hc), fun i hi => ⟨k.cell id (h.T.2 i hi).1, k.cell id (h.T.2 i hi).2⟩⟩, k.cell id h.E, by rw [k.tape]; exact h.F, h.gB.mono hb.size, k.cell id h.hT, h.ct.kept k (fun _ h => h.elim)⟩
theorem LW.pre {F : Interp} {pe : Addr} {w : World} (h : LW F pe w) (s : ByteArray) (hs : s.size ≤ 4398046511104) : RPre F s pe w := ⟨h.T, h.E, h.F, hs, h.gB⟩
theorem impl_any (F : Interp) (s : ByteArray) (pe : Addr) (m : Int) (md : Md) (ent nc sho : Bool) (w : World) (hm : Mo m md) (hx : Mx m ent nc sho) (h : LW F pe w) (hs : s.size ≤ 4398046511104) :
    Calls Tryf.prog 16 #[.string s, .int .u64 m] w (ImplPost (regexpM md ent nc sho s) w) := by
  cases hr : regexpM md ent nc sho s with
  | ok t => exact impl_ok F s pe m md ent nc sho w hm hx (h.pre s hs) t hr
  | neg gs => exact impl_neg F s pe m md ent nc sho w hm hx (h.pre s hs) h.hT gs hr
  | syn => exact impl_syn F s pe m md ent nc sho w hm hx (h.pre s hs) h.hT hr
def md0 : Md := ⟨false, false, false, false⟩
theorem mo0 : Mo 0 md0 := ⟨rfl, rfl, rfl, rfl, rfl⟩
theorem mx0 : Mx 0 false false false := ⟨rfl, rfl, rfl, rfl⟩
theorem reg_a : regexpM md0 false false false ⟨#[97]⟩ = .ok [97] := by
  unfold regexpM
  rw [if_pos ⟨rfl, by kernel_rfl⟩]
def reA : G := .ato (.lit 97) .one .done
theorem reA_alt : AltOK reA := alt_of reA (rounds_ok reA (.inl rfl) (.inl rfl))
theorem fnd_a : foundE [97] 3 Re.no128 (Re.lists reA false false) 0 0 = true := by kernel_rfl
theorem fnd_b : foundE [98] 3 Re.no128 (Re.lists reA false false) 0 0 = false := by kernel_rfl
attribute [local go_sem ↓] ld_eq st_eq
attribute [local go_sem] run_ldAt run_stRe
set_option maxHeartbeats 4000000 in
set_option maxRecDepth 100000 in
theorem works_any (F : Interp) (pe : Addr) (w : World) (h : LW F pe w) : Calls Tryf.prog 20 #[] w fun e w' => e = .returned (.bool true) ∧ Below w.heap.size w w' := by
  have hz := zeroRe
  have H1 := impl_any F ⟨#[97]⟩ pe 0 md0 false false false w mo0 mx0 h (by decide)
  rw [reg_a] at H1
  have HI := Lib.hid H1
  clear H1 h
  go_enter Tryf.func20, Tryf.ntmps20
  go_wp2_with fail
  refine HI.out.mono ?_
  rintro e w1 ⟨hb, gv, rfl, _⟩
  have HB := Lib.hid hb
  have HR := Lib.hid (read_walk reA reA_alt ⟨#[97]⟩ w1 (by decide) (by rfl) (by rfl) (.inl rfl))
  clear hb HI
  go_wp2_with fail
  refine HR.out.mono ?_
  rintro e w2 ⟨c, rfl, hn, hb2⟩
  have hcs := hn.size
  have n3 : nodeAt (w2.alloc (.cells reZ tRe)) (.pointer (some ⟨w2.heap.size, 0, none⟩)) := ⟨_, reZ, rfl, heap_alloc_new w2 _, rfl⟩
  have n4 : oneNode (.agg c) := ⟨c, rfl, hcs, hn.oneC⟩
  have HN := Lib.hid hn
  have HB2 := Lib.hid (HB.out.trans (hb2.mono HB.out.size))
  clear hn hb2 HR
  go_upto_region 3 with fail
  clear n3 n4
  simp only [blkOf, World.setRow_alloc_new]
  obtain ⟨p1, p2⟩ := box_at (w := w2) hcs
  obtain ⟨W3, hW3⟩ : ∃ W3, w2.alloc (.cells c tRe) = W3 := ⟨_, rfl⟩
  have k3 : Kp (fun _ => False) w2 W3 := by rw [← hW3]; exact (Kp.refl _ _).alloc _
  have b3 : W3.heap[w2.heap.size]? = some (.cells c tRe (0, 0)) := by rw [← hW3]; exact heap_alloc_new w2 _
  rw [hW3] at p1 p2
  rw [hW3]
  clear hW3
  have N3 : Hid (Nd (fun _ => True) W3 3 Re.no128 (Re.lists reA false false) 0 0 c) := Lib.hid ((HN.out.mono (fun _ _ _ => trivial)).kept k3 (fun _ _ => id))
  have H3 := Lib.hid (HB2.out.trans ((Kp.below k3 (Nat.le_refl _) (fun _ _ => id)).mono HB2.out.size))
  have F1 := Lib.hid (found_walk 3 Re.no128 (Re.lists reA false false) 0 0 (root_ok reA false false) W3 c ⟨#[97]⟩ N3.out (by decide))
  have B3 := Lib.hid b3
  clear k3 b3 HN HB2
  go_wp2_with fail
  refine F1.out.mono ?_
  rintro e w4 ⟨rfl, hb4⟩
  have k4 := Kp.of_below (X := fun _ => False) hb4
  have b4 := k4.heap id B3.out
  have q1 : reOk w4 (.pointer (some ⟨w2.heap.size, 0, none⟩)) := ⟨_, 0, c, rfl, b4, by omega⟩
  have q2 : reAt w4 (.pointer (some ⟨w2.heap.size, 0, none⟩)) = c := by
    rw [reAt_eq b4, List.drop_zero, List.take_of_length_le (by simp; omega)]
  have H4 := Lib.hid (H3.out.trans (hb4.mono H3.out.size))
  have F2 := Lib.hid (found_walk 3 Re.no128 (Re.lists reA false false) 0 0 (root_ok reA false false) w4 c ⟨#[98]⟩ (N3.out.kept k4 (fun _ _ => id)) (by decide))
  have ea : foundE (ByteArray.mk #[97]).data.toList 3 Re.no128 (Re.lists reA false false) 0 0 = true := fnd_a
  have eb : foundE (ByteArray.mk #[98]).data.toList 3 Re.no128 (Re.lists reA false false) 0 0 = false := fnd_b
  rw [ea]
  clear hb4 k4 b4 F1 B3 p1 p2 N3 H3
  go_wp2_with fail
  refine F2.out.mono ?_
  rintro e w5 ⟨rfl, hb5⟩
  have H5 := Lib.hid (H4.out.trans (hb5.mono H4.out.size))
  rw [eb]
  clear hb5 F2
  go_wp2_with fail
  go_ret
  exact ⟨rfl, H5.out⟩
end Go.Proofs.YtonifkkdokaooaaFmt

/- Walks: laws.FnRegexpFault, laws.FnRegexpTwice. -/
namespace Go.Proofs.YtonifkkdokaooaaFmt
open Go.RowKit Go.Extern.Stop Go.Stop Go.Extern
set_option linter.unusedVariables false

/-- what impl.Regexp tells -/
def rT : RO → ByteArray
  | .ok t => ⟨t.toArray⟩
  | _ => ⟨#[]⟩
def rK : RO → Int
  | .ok _ => 0
  | .neg _ => 1
  | .syn => 2
def rN : RO → Nat
  | .neg gs => gs.length
  | _ => 0
theorem own_form {w : World} {B n k : Nat} {e : TypeId} {v : Value} {xs : List Value} (h : w.ownsRow B e n v k xs) : ∃ a cap, v = .slice a k cap := by
  rcases h.2 with ⟨rfl, rfl⟩ | ⟨g, cap, cur, rfl, _⟩
  · exact ⟨none, 0, rfl⟩
  · exact ⟨_, cap, rfl⟩
theorem ImplPost.out {r : RO} {w w' : World} {e : Ending} (h : ImplPost r w e w') : Below w.heap.size w w' ∧ ∃ a cap, e = .returned (.tuple #[.string (rT r), .int .i64 (rK r), .slice a (rN r) cap]) := by
  obtain ⟨hb, gv, h⟩ := h
  refine ⟨hb, ?_⟩
  cases r with
  | ok t => obtain ⟨rfl, ho⟩ := h; obtain ⟨a, cap, rfl⟩ := own_form ho; exact ⟨a, cap, rfl⟩
  | neg gs => obtain ⟨rfl, ho⟩ := h; obtain ⟨a, cap, rfl⟩ := own_form ho; exact ⟨a, cap, rfl⟩
  | syn => obtain ⟨rfl, ho⟩ := h; obtain ⟨a, cap, rfl⟩ := own_form ho; exact ⟨a, cap, rfl⟩
/-- any mode -/
theorem bits_zero (m : Int) (k : Nat) (hk : k < 16384) : (bits BinOp.and IntKind.u64 m (k : Int) == 0) = decide ((BitVec.ofInt 64 m).toNat &&& k = 0) := by
  have hlt : (BitVec.ofInt 64 m).toNat &&& k < 16384 := Nat.lt_of_le_of_lt Nat.and_le_right hk
  have e : bits BinOp.and IntKind.u64 m (k : Int) = (((BitVec.ofInt 64 m).toNat &&& k : Nat) : Int) := by
    simp only [bits, BitVec.toNat_and]
    have h2 : (BitVec.ofInt IntKind.u64.bits (k : Int)).toNat = k := by
      show (BitVec.ofInt 64 (k : Int)).toNat = k
      rw [BitVec.ofInt_natCast, BitVec.toNat_ofNat, Nat.mod_eq_of_lt (by omega)]
    rw [h2]
    show IntKind.u64.wrap (((BitVec.ofInt 64 m).toNat &&& k : Nat) : Int) = _
    rw [IntKind.wrap_u64]
    omega
  rw [e]
  by_cases h : (BitVec.ofInt 64 m).toNat &&& k = 0
  · rw [h]; rfl
  · simp only [h, decide_false, beq_eq_false_iff_ne, ne_eq]
    omega
def mdOf (m : Int) : Md := ⟨bits BinOp.and IntKind.u64 m 64 != 0, bits BinOp.and IntKind.u64 m 2 != 0, bits BinOp.and IntKind.u64 m 16 != 0, bits BinOp.and IntKind.u64 m 32 != 0⟩
theorem nbne (a b : Int) : (a == b) = !(a != b) := by simp [bne]
theorem mo_of (m : Int) : Mo m (mdOf m) := ⟨rfl, rfl, nbne _ _, nbne _ _, nbne _ _⟩
theorem mx_of (m : Int) : Mx m (bits BinOp.and IntKind.u64 m 4 != 0) (bits BinOp.and IntKind.u64 m 8 != 0) (bits BinOp.and IntKind.u64 m 1 != 0) := by
  refine ⟨?_, rfl, rfl, rfl⟩
  have e4 := bits_zero m 4 (by decide)
  have e8 := bits_zero m 8 (by decide)
  have e12 := bits_zero m 12 (by decide)
  have hd : (BitVec.ofInt 64 m).toNat &&& 12 = ((BitVec.ofInt 64 m).toNat &&& 4) ||| ((BitVec.ofInt 64 m).toNat &&& 8) := by
    rw [← Nat.and_or_distrib_left]
    rfl
  show (bits BinOp.and IntKind.u64 m ((12 : Nat) : Int) == 0) = !(!(bits BinOp.and IntKind.u64 m ((4 : Nat) : Int) == 0) || !(bits BinOp.and IntKind.u64 m ((8 : Nat) : Int) == 0))
  rw [e4, e8, e12, hd]
  by_cases h4 : (BitVec.ofInt 64 m).toNat &&& 4 = 0 <;> by_cases h8 : (BitVec.ofInt 64 m).toNat &&& 8 = 0 <;> simp [*, Nat.or_eq_zero_iff]
noncomputable abbrev rOf (m : Int) (s : ByteArray) : RO := regexpM (mdOf m) (bits BinOp.and IntKind.u64 m 4 != 0) (bits BinOp.and IntKind.u64 m 8 != 0) (bits BinOp.and IntKind.u64 m 1 != 0) s
theorem impl_of (F : Interp) (s : ByteArray) (pe : Addr) (m : Int) (w : World) (h : LW F pe w) (hs : s.size ≤ 4398046511104) :
    Calls Tryf.prog 16 #[.string s, .int .u64 m] w fun e w' => ∃ a cap, e = .returned (.tuple #[.string (rT (rOf m s)), .int .i64 (rK (rOf m s)), .slice a (rN (rOf m s)) cap]) ∧ Below w.heap.size w w' :=
  (impl_any F s pe m (mdOf m) _ _ _ w (mo_of m) (mx_of m) h hs).mono fun e w' hh => by
    obtain ⟨hb, a, cap, he⟩ := hh.out
    exact ⟨a, cap, he, hb⟩
end Go.Proofs.YtonifkkdokaooaaFmt

/- What each law's walk takes: reading what Regexp wrote, Found, impl.Regexp; words of arguments. -/
namespace Go.Proofs.YtonifkkdokaooaaFmt
open Go.RowKit Go.Extern.Stop Go.Stop Go.Extern
open Re (Fo G nodeE mean falses trues foundE fnd)
set_option linter.unusedVariables false

theorem alt_g (g : G) (hC : noC g = true) : AltOK g := alt_of g (rounds_ok g (.inl hC) (.inr flg_ok))
/-- reading what Regexp wrote -/
theorem read_g (g : G) (hC : noC g = true) (hok : g.ok = true) (hl : (Re.pr g).length ≤ 274877906944) (w : World) :
    Calls Tryf.prog 17 #[.string ⟨(bs (Re.pr g)).toArray⟩] w fun e w' => ∃ c, e = .returned (.tuple #[.agg c, .bool true]) ∧ Nd (fun x => w.heap.size ≤ x) w' 3 Re.no128 (Re.lists g false false) 0 0 c ∧ Below w.heap.size w w' := by
  have hs : (ByteArray.mk (bs (Re.pr g)).toArray).size ≤ 274877906944 := by
    show (bs (Re.pr g)).toArray.size ≤ _
    simp [bs]; omega
  exact read_walk g (alt_g g hC) ⟨(bs (Re.pr g)).toArray⟩ w hs (by simp) hok (.inl hC)
theorem found_g (g : G) (w : World) (c : Array Value) (s : ByteArray) (hN : Nd (fun _ => True) w 3 Re.no128 (Re.lists g false false) 0 0 c) (hs : s.size ≤ 274877906944) :
    Calls Tryf.prog 18 #[.agg c, .string s] w fun e w' => e = .returned (.bool (fnd s.data.toList g)) ∧ Below w.heap.size w w' :=
  found_walk 3 Re.no128 (Re.lists g false false) 0 0 (root_ok g false false) w c s hN hs
theorem impl_g (F : Interp) (s : ByteArray) (pe : Addr) (m : Int) (md : Md) (ent nc sho : Bool) (w : World) (hm : Mo m md) (hx : Mx m ent nc sho) (h : LW F pe w) (hs : s.size ≤ 4398046511104) (g : G) (hr : regexpM md ent nc sho s = .ok (bs (Re.pr g))) :
    Calls Tryf.prog 16 #[.string s, .int .u64 m] w fun e w' => (∃ gv, e = .returned (.tuple #[.string ⟨(bs (Re.pr g)).toArray⟩, .int .i64 0, gv])) ∧ Below w.heap.size w w' := by
  refine (impl_ok F s pe m md ent nc sho w hm hx (h.pre s hs) _ hr).mono ?_
  rintro e w' ⟨hb, gv, he, _⟩
  exact ⟨⟨gv, he⟩, hb⟩
/-- modes below 64 know no groups -/
theorem ext_low (m : Int) (h0 : 0 ≤ m) (h1 : m < 64) : (mdOf m).ext = false := by
  show (bits BinOp.and IntKind.u64 m ((64 : Nat) : Int) != 0) = false
  have e := bits_zero m 64 (by decide)
  obtain ⟨n, rfl⟩ : ∃ n : Nat, m = n := ⟨m.toNat, by omega⟩
  have hn : n < 64 := by omega
  have e2 : (BitVec.ofInt 64 (n : Int)).toNat = n := by
    rw [BitVec.ofInt_natCast, BitVec.toNat_ofNat, Nat.mod_eq_of_lt (by omega)]
  rw [e2] at e
  have e3 : ∀ n, n < 64 → n &&& 64 = 0 := by decide
  rw [e3 n hn] at e
  rw [bne, e]; rfl
theorem wf_u {a : Int} (h : (Lit.int IntKind.u64 a).wf = true) : 0 ≤ a := by
  simp [Lit.wf, IntKind.min, IntKind.max, IntKind.signed, IntKind.bits] at h
  omega
theorem wf_b {a : Int} (h : (Lit.int IntKind.u8 a).wf = true) : 0 ≤ a ∧ a ≤ 255 := by
  simp [Lit.wf, IntKind.min, IntKind.max, IntKind.signed, IntKind.bits] at h
  omega
end Go.Proofs.YtonifkkdokaooaaFmt

/- What the laws over brackets take: reading regular expressions with classes; a class alone; one byte as a text. Printed by gen_lawc.py. -/
namespace Go.Proofs.YtonifkkdokaooaaFmt
open Go.RowKit Go.Extern.Stop Go.Stop Go.Extern
open Re (Fo G CI fnd)
set_option linter.unusedVariables false

theorem alt_gc (g : G) : AltOK g := alt_of g (rounds_ok g (.inr cls_ok) (.inr flg_ok))
/-- reading what Regexp wrote -/
theorem read_gc (g : G) (hok : g.ok = true) (hl : (Re.pr g).length ≤ 274877906944) (w : World) (ct : CT w) :
    Calls Tryf.prog 17 #[.string ⟨(bs (Re.pr g)).toArray⟩] w fun e w' => ∃ c, e = .returned (.tuple #[.agg c, .bool true]) ∧ Nd (fun x => w.heap.size ≤ x) w' 3 Re.no128 (Re.lists g false false) 0 0 c ∧ Below w.heap.size w w' := by
  have hs : (ByteArray.mk (bs (Re.pr g)).toArray).size ≤ 274877906944 := by
    show (bs (Re.pr g)).toArray.size ≤ _
    simp [bs]; omega
  exact read_walk g (alt_gc g) ⟨(bs (Re.pr g)).toArray⟩ w hs (by simp) hok (.inr ct)
theorem LW.ctB {F : Interp} {pe : Addr} {w w' : World} (h : LW F pe w) (hb : Below w.heap.size w w') : CT w' := (h.below hb).ct
theorem conv_c1 (w : World) (c : Nat) (hc : c < 256) : (convert 33 9 (.slice (some ⟨w.heap.size, 0, none⟩) 1 1)).run Tryf.prog (w.alloc (.cells #[.int .u8 c] 5)) = .ok (.string ⟨#[UInt8.ofNat c]⟩) (w.alloc (.cells #[.int .u8 c] 5)) := by
  have hx : ((UInt8.ofNat c).toNat : Int) = c := by simp; omega
  have hn := heap_alloc_new w (.cells #[.int .u8 c] 5)
  refine run_convert_bytes_back _ _ _ 5 _ 1 [UInt8.ofNat c] Tryf.underlying33 Tryf.underlying5 Tryf.underlying9 ?_
  intro j hj
  match j, hj with
  | 0, _ =>
    rw [Addr.add_mid, Lib.cell_of_heap hn]
    simp only [List.getElem_cons_zero, hx]
    rfl
/-- one byte against brackets -/
theorem one_cls (neg : Bool) (is : List CI) (his : is.all itP = true) (hne : is ≠ []) (P : ByteArray) (hn : nums P = prK neg is) :
    ∃ g : G, regexpM mdE true false false P = .ok (bs (Re.pr g)) ∧ g.ok = true ∧ (Re.pr g).length ≤ 20 * P.size + 10 ∧ ∀ c, c < 128 → fnd [UInt8.ofNat c] g = (Re.isHas is c != neg) := by
  obtain ⟨g, h1, h2, h3, h4⟩ := whole_q mdE rfl false false P (.cls neg is .nil) (by rw [hn]; simp [prQ]) (by simp [okQ, his]; exact hne) rfl
  refine ⟨g, h1, h2, h3, fun c hc => ?_⟩
  have ha : Re.asc [UInt8.ofNat c] := by
    intro b hb
    rw [List.mem_singleton.1 hb]; simp; omega
  rw [Bool.eq_iff_iff, h4 _ ha]
  show (byteR [UInt8.ofNat c] (clsT neg is false) 0 ∧ 0 + 1 = 1) ↔ _
  have e : (UInt8.ofNat c).toNat = c := by simp; omega
  simp [byteR, clsT, e]
theorem one_nm (k : Nat) (h1 : 1 ≤ k) (h2 : k ≤ 12) (P : ByteArray) (hn : nums P = prK false [.nm k]) :
    ∃ g : G, regexpM mdE true false false P = .ok (bs (Re.pr g)) ∧ g.ok = true ∧ (Re.pr g).length ≤ 20 * P.size + 10 ∧ ∀ c, c < 128 → fnd [UInt8.ofNat c] g = inB k c := by
  obtain ⟨g, a, b, c, d⟩ := one_cls false [.nm k] (by simp [itP, h1, h2]) (by simp) P hn
  refine ⟨g, a, b, c, fun x hx => ?_⟩
  rw [d x hx, ← clsB_inB k x hx]
  simp [Re.isHas, CI.has]
end Go.Proofs.YtonifkkdokaooaaFmt

/- The classes' tables from the listed variables. -/
namespace Go.Proofs.YtonifkkdokaooaaFmt
open Go.ChangeShapes Go.WideShapes Go.ChangeAt Go.RowKit Go.Lib
set_option linter.unusedVariables false

theorem laidOut : laidOutB Tryf.prog = true := by kernel_rfl
/-- the list of each row of this seat -/
noncomputable abbrev laidAll : List (String × DataW Unit) := [("unicode/utf8.acceptRanges", Rows.laid_unicode_utf8_acceptRanges), ("errors.errorType", Rows.laid_errors_errorType), ("io.EOF", Rows.laid_io_EOF), ("loop.example/pub-shellpatterns/spec.classNames", Rows.laid_loop_example_pub_shellpatterns_spec_classNames), ("loop.example/pub-shellpatterns/spec.ranges", Rows.laid_loop_example_pub_shellpatterns_spec_ranges), ("unicode/utf8.first", Rows.laid_unicode_utf8_first)]
noncomputable abbrev laidData : List (String × DataW Unit) := [("unicode/utf8.acceptRanges", Rows.laid_unicode_utf8_acceptRanges), ("io.EOF", Rows.laid_io_EOF), ("loop.example/pub-shellpatterns/spec.classNames", Rows.laid_loop_example_pub_shellpatterns_spec_classNames), ("loop.example/pub-shellpatterns/spec.ranges", Rows.laid_loop_example_pub_shellpatterns_spec_ranges), ("unicode/utf8.first", Rows.laid_unicode_utf8_first)]
theorem cString : Tryf.prog.cellsOf 9 = 1 := by kernel_rfl
/-- a listed slice of strings, at its variable -/
theorem strings_at {W : World} {n : String} {g : Nat} {cs : Array Value} {fuel : Nat} {p : List MemPlace} (l : List (List UInt8)) (hl : 0 < l.length) (hg : Tryf.prog.globalNamed n = some g) (hv : W.var? Tryf.prog n = some cs)
    (hd : DataW.trod (fun _ => ()) Tryf.prog W 0 (fun _ => true) false fuel 131 cs.toList = some (.slice (l.map fun x => .lit (.string x)) [], p)) :
    ∃ cb co cc, W.cell? ⟨g, 0, none⟩ = some (.slice (some ⟨cb, co, none⟩) l.length cc) ∧ ∀ i, i < l.length → W.cell? ⟨cb, co + i, none⟩ = some (.string ⟨(l.getD i []).toArray⟩) := by
  obtain ⟨a, cap, hcs, _, hel⟩ := open_row Tryf.underlying131 cString hd
  have hcell : W.cell? ⟨g, 0, none⟩ = some (.slice (some a) l.length cap) := by
    have := World.var?_cell hg hv 0
    rw [Array.eq_one_of_toList hcs] at this
    simpa using this
  have hat : ∀ i, i < l.length → W.cell? (a.add i) = some (.string ⟨(l.getD i []).toArray⟩) := by
    intro i hi
    obtain ⟨v, m, q, hc, ht⟩ := hel i (.lit (.string l[i])) (by simp [List.getElem?_eq_getElem hi])
    obtain ⟨s, hs, hx, _⟩ := DataW.trod_string Tryf.underlying9 ht
    obtain rfl := List.head_eq_of_cons_eq hs
    simp only [Prod.mk.injEq, DataW.lit.injEq, Lit.string.injEq] at hx
    rw [hc]
    have e : (l.getD i []) = s.data.toList := by simp [List.getD, List.getElem?_eq_getElem hi, hx.1]
    rw [e, Pat.bytes_eta]
  have hsp : a.spot = none := by
    have := World.cell?_spot (hat 0 hl)
    simpa [Addr.add] using this
  obtain ⟨b, o, s⟩ := a
  simp only at hsp
  subst hsp
  refine ⟨b, o, cap, hcell, fun i hi => ?_⟩
  have := hat i hi
  have e : (⟨b, o, none⟩ : Addr).add i = ⟨b, o + i, none⟩ := by unfold Addr.add; split <;> simp_all
  rwa [e] at this


theorem gNm : Tryf.prog.globalNamed "loop.example/pub-shellpatterns/spec.classNames" = some 2 := by kernel_rfl
theorem gRg : Tryf.prog.globalNamed "loop.example/pub-shellpatterns/spec.ranges" = some 3 := by kernel_rfl
theorem tNm : (Tryf.prog.globals[2]?).map (·.type) = some 131 := by kernel_rfl
theorem tRg : (Tryf.prog.globals[3]?).map (·.type) = some 131 := by kernel_rfl
def texts (f : Nat → List Nat) : List (List UInt8) := (List.range 13).map fun k => bs (f k)
theorem texts_get (f : Nat → List Nat) (k : Nat) (hk : k < 13) : (texts f).getD k [] = bs (f k) := by
  simp [texts, List.getD, hk]
theorem names_data : Rows.laid_loop_example_pub_shellpatterns_spec_classNames (H := Unit) = .slice ((texts Re.nmL).map fun x => .lit (.string x)) [] := by kernel_rfl
theorem ranges_data : Rows.laid_loop_example_pub_shellpatterns_spec_ranges (H := Unit) = .slice ((texts rgL).map fun x => .lit (.string x)) [] := by kernel_rfl
theorem tb_of {W : World} {n : String} {g : Nat} {f : Nat → List Nat} {d : DataW Unit} (hg : Tryf.prog.globalNamed n = some g) (ht : (Tryf.prog.globals[g]?).map (·.type) = some 131) (hd : d = .slice ((texts f).map fun x => .lit (.string x)) []) (h : VarReads Tryf.prog W n d) : TB g f W := by
  subst hd
  obtain ⟨g2, t, cs, fuel, p, h1, h2, h3, h4⟩ := h
  obtain rfl := Option.some.inj (hg.symm.trans h1)
  obtain rfl := Option.some.inj (ht.symm.trans h2)
  obtain ⟨cb, co, cc, c1, c2⟩ := strings_at (texts f) (by simp [texts]) hg h3 h4
  have hl : (texts f).length = 13 := by simp [texts]
  rw [hl] at c1 c2
  exact ⟨cb, co, cc, c1, fun k hk => by rw [c2 k hk, texts_get f k hk]⟩
theorem ct_of {W : World} (h : laidMet Tryf.prog laidData W) : CT W :=
  ⟨tb_of gRg tRg ranges_data (Lib.laidMet.reads h (by simp [laidData])), tb_of gNm tNm names_data (Lib.laidMet.reads h (by simp [laidData]))⟩
end Go.Proofs.YtonifkkdokaooaaFmt
