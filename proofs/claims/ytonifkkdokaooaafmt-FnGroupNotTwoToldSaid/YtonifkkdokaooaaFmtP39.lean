/- Joined by pack.py: RxE, RxF, RxG. -/
import Derived.Test.YtonifkkdokaooaaFmtP38
/- Walk: pattern.Regexp. Printed by gen_rx.py. -/
namespace Go.Proofs.YtonifkkdokaooaaFmt
open Go.RowKit Go.Extern.Stop Go.Stop Go.Extern
set_option linter.unusedVariables false

theorem rLo2_eq : rLo2 = .seq (.block 3 (.loop tBody)) rFin := rfl
theorem t_rounds (F : Interp) (B b ls : Nat) (s : ByteArray) (pe : Addr) (m : Int) (md : Md) (w0 : World) (Q : Exit → Act → World → Prop) (R : RR) (hm : Mo m md)
    (hxd : ∀ acc gs gv i' a w', TF s m b ls gv a → TW F B b ls s pe w0 i' acc gv gs w' → R = .done acc gs → Q (.exit 3) ⟨a, []⟩ w')
    (hxs : ∀ (a : Array Value) w' v, a.size = 91 → a[4]? = some (.string ⟨#[]⟩) → a[5]? = some v → SynErr w' v → Below w0.heap.size w0 w' → R = .syn → Q .ret ⟨a, []⟩ w') :
    ∀ (f i : Nat) (acc : List UInt8) (gv : Value) (gs : List (Nat × Nat)) (w : World) (a : Array Value), TF s m b ls gv a → TW F B b ls s pe w0 i acc gv gs w → s.size < f + i → loopR md s f i acc gs = R → Code.rounds Tryf.prog tBody Q f ⟨a, []⟩ w := by
  intro f
  induction f with
  | zero => intro i acc gv gs w a hF hT hf; have := hT.pre.hi; omega
  | succ f ih =>
    intro i acc gv gs w a hF hT hf hR
    rw [rounds_succ]
    unfold loopR at hR
    have hg := next_good md s (s.size + 1) i hT.pre.hi (by omega)
    have h3 := next_err md s (s.size + 1) i
    by_cases h1 : (next md s (s.size + 1) i).err = 1
    · rw [if_pos h1] at hR
      exact t_eof F B b ls s pe m md w0 w i acc gv gs _ Q hm hT h1 (fun a w' i' hF' hT' => hxd acc gs gv i' a w' hF' hT' hR.symm) a hF
    rw [if_neg h1] at hR
    have hz : (nx s i).1 ≠ 0 := fun h => by rw [hg.1 h] at h1; exact h1 rfl
    by_cases h0 : (next md s (s.size + 1) i).err = 0
    · rw [if_pos h0] at hR
      have := (hg.2 hz).2 (by omega)
      exact t_ok F B b ls s pe m md w0 w i acc gv gs _ Q hm hT h0 (fun a w' hF' hT' => ih _ _ gv gs w' a hF' hT' (by omega) hR) a hF
    rw [if_neg h0] at hR
    by_cases h2 : (next md s (s.size + 1) i).err = 2
    · rw [if_pos h2] at hR
      have := (hg.2 hz).2 (by omega)
      exact t_neg F B b ls s pe m md w0 w i acc gv gs _ Q hm hT h2 (fun a w' gv' hF' hT' => ih _ _ gv' _ w' a hF' hT' (by omega) hR) a hF
    · rw [if_neg h2] at hR
      exact t_syn F B b ls s pe m md w0 w i acc gv gs _ Q hm hT (by omega) (fun a w' v h4 h5 h6 h7 h8 => hxs a w' v h4 h5 h6 h7 h8 hR.symm) a hF
set_option maxRecDepth 1000000 in
set_option maxHeartbeats 4000000 in
theorem fin_neg (F : Interp) (B b ls : Nat) (s : ByteArray) (pe : Addr) (m : Int) (ent nc sho : Bool) (w0 w : World) (i : Nat) (acc : List UInt8) (gv : Value) (gs : List (Nat × Nat)) (Q : Exit → Act → World → Prop) (hm : Mx m ent nc sho) (hT : TW F B b ls s pe w0 i acc gv gs w) (hne : gs ≠ []) (hx : ∀ (a : Array Value) w' p, a.size = 91 → a[4]? = some (.string ⟨#[]⟩) → a[5]? = some (.iface 45 (.pointer (some ⟨p, 0, none⟩))) → w'.heap[p]? = some (.cells #[gv] 50 (0, 0)) → w'.ownsRow B tG 2 gv gs.length (grCells gs) → Below w0.heap.size w0 w' → Q .ret ⟨a, []⟩ w') (a : Array Value) (hF : TF s m b ls gv a) : Code.wp Tryf.prog rFin Q ⟨a, []⟩ w := by
  refine hF.open (C := fun a => Code.wp Tryf.prog rFin Q ⟨a, []⟩ w) fun x => ?_
  clear hF a
  have HX := Lib.hid hx
  have HT := Lib.hid hT
  have h4 := hm.n4
  have hle := hT.pre.hi
  have hs42 := hT.pre.hs
  have hl := hT.pre.len
  have hsz := hT.pre.sz
  have hgn := hT.own
  have hgv : ∃ ao cap, gv = .slice ao gs.length cap := by
    rcases hT.own.2 with ⟨hv, h0⟩ | ⟨g, cap, cur, hv, _⟩
    · exact ⟨none, 0, by rw [hv, h0]⟩
    · exact ⟨_, _, hv⟩
  obtain ⟨ao, cap, rfl⟩ := hgv
  have HO := Lib.hid hgn
  clear hgn
  have hpos : (0 : Int) < (gs.length : Int) := by have := List.length_pos_iff.2 hne; omega
  have HB0 := Lib.hid hT.hb
  clear hx hT hm hne
  conv => arg 2; whnf
  go_wp2_with fail
  refine HX.out _ _ _ rfl rfl rfl (alloc_at _ _) (HO.out.alloc _) (HB0.out.trans ((Below.refl _ _).alloc HB0.out.size _))
set_option maxRecDepth 1000000 in
set_option maxHeartbeats 4000000 in
theorem fin_ok0 (F : Interp) (B b ls : Nat) (s : ByteArray) (pe : Addr) (m : Int) (ent nc sho : Bool) (w0 w : World) (i : Nat) (acc : List UInt8) (gv : Value) (gs : List (Nat × Nat)) (Q : Exit → Act → World → Prop) (hm : Mx m ent nc sho) (hT : TW F B b ls s pe w0 i acc gv gs w) (hgs : gs = []) (hen : ent = false) (hx : ∀ (a : Array Value) w', a.size = 91 → a[4]? = some (.string ⟨(acc).toArray⟩) → a[5]? = some .nilIface → Below w0.heap.size w0 w' → Q .ret ⟨a, []⟩ w') (a : Array Value) (hF : TF s m b ls gv a) : Code.wp Tryf.prog rFin Q ⟨a, []⟩ w := by
  refine hF.open (C := fun a => Code.wp Tryf.prog rFin Q ⟨a, []⟩ w) fun x => ?_
  clear hF a
  have HX := Lib.hid hx
  have HT := Lib.hid hT
  have h4 := hm.n4
  have hle := hT.pre.hi
  have hs42 := hT.pre.hs
  have hl := hT.pre.len
  have hsz := hT.pre.sz
  have hgn := hT.own
  have hgv : ∃ ao cap, gv = .slice ao gs.length cap := by
    rcases hT.own.2 with ⟨hv, h0⟩ | ⟨g, cap, cur, hv, _⟩
    · exact ⟨none, 0, by rw [hv, h0]⟩
    · exact ⟨_, _, hv⟩
  obtain ⟨ao, cap, rfl⟩ := hgv
  have HO := Lib.hid hgn
  clear hgn
  subst hgs
  rw [hen] at h4
  have HB0 := Lib.hid hT.hb
  have hBd := hT.pre.Bd
  clear hx hT hm hen
  conv => arg 2; whnf
  go_wp2_with fail
  refine (Tryf.Builder_String_any_k B b (acc) w hBd hsz).mono ?_
  rintro e w2 ⟨rfl, hB2, hq2, ho2⟩
  have HBL := Lib.hid (HB0.out.trans (hq2.mono HT.out.le))
  clear hB2 hq2 ho2
  go_wp2_with fail
  exact HX.out _ _ rfl rfl rfl HBL.out
set_option maxRecDepth 1000000 in
set_option maxHeartbeats 4000000 in
theorem fin_ok1 (F : Interp) (B b ls : Nat) (s : ByteArray) (pe : Addr) (m : Int) (ent nc sho : Bool) (w0 w : World) (i : Nat) (acc : List UInt8) (gv : Value) (gs : List (Nat × Nat)) (Q : Exit → Act → World → Prop) (hm : Mx m ent nc sho) (hT : TW F B b ls s pe w0 i acc gv gs w) (hgs : gs = []) (hen : ent = true) (hx : ∀ (a : Array Value) w', a.size = 91 → a[4]? = some (.string ⟨(acc ++ [36]).toArray⟩) → a[5]? = some .nilIface → Below w0.heap.size w0 w' → Q .ret ⟨a, []⟩ w') (a : Array Value) (hF : TF s m b ls gv a) : Code.wp Tryf.prog rFin Q ⟨a, []⟩ w := by
  refine hF.open (C := fun a => Code.wp Tryf.prog rFin Q ⟨a, []⟩ w) fun x => ?_
  clear hF a
  have HX := Lib.hid hx
  have HT := Lib.hid hT
  have h4 := hm.n4
  have hle := hT.pre.hi
  have hs42 := hT.pre.hs
  have hl := hT.pre.len
  have hsz := hT.pre.sz
  have hgn := hT.own
  have hgv : ∃ ao cap, gv = .slice ao gs.length cap := by
    rcases hT.own.2 with ⟨hv, h0⟩ | ⟨g, cap, cur, hv, _⟩
    · exact ⟨none, 0, by rw [hv, h0]⟩
    · exact ⟨_, _, hv⟩
  obtain ⟨ao, cap, rfl⟩ := hgv
  have HO := Lib.hid hgn
  clear hgn
  subst hgs
  rw [hen] at h4
  have HB0' := Lib.hid hT.hb
  have hBd := hT.pre.Bd
  have HW := Lib.hid (writeString_any B b (Lib.byteCells acc) ⟨#[36]⟩ w hBd (by simp [Lib.byteCells, ByteArray.size]; omega) hsz)
  clear hx hT hm hen hBd
  conv => arg 2; whnf
  go_wp2_with fail
  refine HW.out.mono ?_
  rintro e w1 ⟨rfl, hB1, hf1⟩
  have hBd1 : IsB B b (Lib.byteCells (acc ++ [36])) w1 := by
    have e : Lib.byteCells (acc ++ [36]) = Lib.byteCells acc ++ Lib.byteCells [36] := by simp [Lib.byteCells]
    rw [e]; exact hB1
  have HB0 := Lib.hid (HB0'.out.trans (hf1.1.mono HT.out.le))
  have hsz1 : B ≤ w1.heap.size := Nat.le_trans hsz hf1.1.size
  have HBD1 := Lib.hid hBd1
  clear hB1 hf1 HW HB0' hBd1
  go_wp2_with fail
  refine (Tryf.Builder_String_any_k B b (acc ++ [36]) w1 HBD1.out hsz1).mono ?_
  rintro e w2 ⟨rfl, hB2, hq2, ho2⟩
  have HBL := Lib.hid (HB0.out.trans (hq2.mono HT.out.le))
  clear hB2 hq2 ho2
  go_wp2_with fail
  exact HX.out _ _ rfl rfl rfl HBL.out
end Go.Proofs.YtonifkkdokaooaaFmt

/- Walk: pattern.Regexp. Printed by gen_rx.py. -/
namespace Go.Proofs.YtonifkkdokaooaaFmt
open Go.RowKit Go.Extern.Stop Go.Stop Go.Extern
set_option linter.unusedVariables false

/-- what is written ahead of the pattern -/
def hdr (ent nc sho : Bool) : List UInt8 := [40, 63, 115] ++ (if nc then [105] else []) ++ (if sho then [85] else []) ++ [41] ++ (if ent then [94] else [])
set_option maxRecDepth 1000000 in
set_option maxHeartbeats 4000000 in
theorem head000 (s : ByteArray) (m : Int) (w1 : World) (Q : Exit → Act → World → Prop) (hm : Mx m false false false)
    (hx : ∀ a v, IsB w1.heap.size w1.heap.size (Lib.byteCells (hdr false false false)) v → w1.heap.size ≤ v.heap.size → Below w1.heap.size w1 v → w1.heap.size ≤ v.heap.size → TF s m w1.heap.size v.heap.size (.slice none 0 0) a → Code.wp Tryf.prog rLo2 Q ⟨a, []⟩ (v.alloc (.cells #[.string s, .int .i64 0] 66)))
    (a : Array Value) (hF : QF s m a) : Code.wp Tryf.prog rRest Q ⟨a, []⟩ w1 := by
  refine hF.open (C := fun a => Code.wp Tryf.prog rRest Q ⟨a, []⟩ w1) fun x => ?_
  clear hF a
  have HX := Lib.hid (fun a v h1 h2 h3 (h4 : True) h5 => hx a v h1 h2 h3 h2 h5)
  have h8 := hm.n8
  have h1 := hm.n1
  have h4 := hm.n4
  have HI0 : Hid (IsB w1.heap.size w1.heap.size (Lib.byteCells []) (w1.alloc (.cells #[.pointer none, .slice none 0 0] 62)) ∧ w1.heap.size ≤ (w1.alloc (.cells #[.pointer none, .slice none 0 0] 62)).heap.size) :=
    Lib.hid ⟨Lib.IsBuilderF.of (Lib.fresh_isBuilder 62 5 w1), by simp⟩
  have HLz := Lib.hid ((Below.refl w1.heap.size w1).alloc (Nat.le_refl _) (.cells #[.pointer none, .slice none 0 0] 62))
  clear hx hm
  conv => arg 2; whnf
  have HW0 := Lib.hid (writeString_any w1.heap.size w1.heap.size (Lib.byteCells []) ⟨#[40, 63, 115]⟩ _ HI0.out.1 (by simp [Lib.byteCells, ByteArray.size]) HI0.out.2)
  go_wp2_with fail
  refine HW0.out.mono ?_
  rintro e v0 ⟨rfl, hB0, hf0⟩
  have HI1 : Hid (IsB w1.heap.size w1.heap.size (Lib.byteCells ([] ++ [40, 63, 115])) v0 ∧ w1.heap.size ≤ v0.heap.size) := Lib.hid ⟨by have e : Lib.byteCells ([] ++ [40, 63, 115]) = Lib.byteCells [] ++ Lib.byteCells [40, 63, 115] := (by simp [Lib.byteCells]); rw [e]; exact hB0, Nat.le_trans HI0.out.2 hf0.1.size⟩
  have HL0 := Lib.hid (HLz.out.trans hf0.1)
  clear hB0 hf0 HW0 HI0
  have HI1 : Hid (IsB w1.heap.size w1.heap.size (Lib.byteCells [40, 63, 115]) v0 ∧ w1.heap.size ≤ v0.heap.size) := Lib.hid HI1.out
  have HW1 := Lib.hid (writeString_any w1.heap.size w1.heap.size (Lib.byteCells [40, 63, 115]) ⟨#[41]⟩ _ HI1.out.1 (by simp [Lib.byteCells, ByteArray.size]) HI1.out.2)
  go_wp2_with fail
  refine HW1.out.mono ?_
  rintro e v1 ⟨rfl, hB1, hf1⟩
  have HI2 : Hid (IsB w1.heap.size w1.heap.size (Lib.byteCells ([40, 63, 115] ++ [41])) v1 ∧ w1.heap.size ≤ v1.heap.size) := Lib.hid ⟨by have e : Lib.byteCells ([40, 63, 115] ++ [41]) = Lib.byteCells [40, 63, 115] ++ Lib.byteCells [41] := (by simp [Lib.byteCells]); rw [e]; exact hB1, Nat.le_trans HI1.out.2 hf1.1.size⟩
  have HL1 := Lib.hid (HL0.out.trans hf1.1)
  clear hB1 hf1 HW1 HI1
  have HI2 : Hid (IsB w1.heap.size w1.heap.size (Lib.byteCells [40, 63, 115, 41]) v1 ∧ w1.heap.size ≤ v1.heap.size) := Lib.hid HI2.out
  go_upto_region 34 with fail
  rename_i K hK
  have HKK := Lib.hid hK
  clear hK
  go_wp2_with fail
  refine HKK.out _ _ ?_
  refine HX.out _ v1 HI2.out.1 HI2.out.2 HL1.out trivial ?_
  exact ⟨rfl, rfl, rfl, rfl, rfl, rfl⟩
set_option maxRecDepth 1000000 in
set_option maxHeartbeats 4000000 in
theorem head001 (s : ByteArray) (m : Int) (w1 : World) (Q : Exit → Act → World → Prop) (hm : Mx m true false false)
    (hx : ∀ a v, IsB w1.heap.size w1.heap.size (Lib.byteCells (hdr true false false)) v → w1.heap.size ≤ v.heap.size → Below w1.heap.size w1 v → w1.heap.size ≤ v.heap.size → TF s m w1.heap.size v.heap.size (.slice none 0 0) a → Code.wp Tryf.prog rLo2 Q ⟨a, []⟩ (v.alloc (.cells #[.string s, .int .i64 0] 66)))
    (a : Array Value) (hF : QF s m a) : Code.wp Tryf.prog rRest Q ⟨a, []⟩ w1 := by
  refine hF.open (C := fun a => Code.wp Tryf.prog rRest Q ⟨a, []⟩ w1) fun x => ?_
  clear hF a
  have HX := Lib.hid (fun a v h1 h2 h3 (h4 : True) h5 => hx a v h1 h2 h3 h2 h5)
  have h8 := hm.n8
  have h1 := hm.n1
  have h4 := hm.n4
  have HI0 : Hid (IsB w1.heap.size w1.heap.size (Lib.byteCells []) (w1.alloc (.cells #[.pointer none, .slice none 0 0] 62)) ∧ w1.heap.size ≤ (w1.alloc (.cells #[.pointer none, .slice none 0 0] 62)).heap.size) :=
    Lib.hid ⟨Lib.IsBuilderF.of (Lib.fresh_isBuilder 62 5 w1), by simp⟩
  have HLz := Lib.hid ((Below.refl w1.heap.size w1).alloc (Nat.le_refl _) (.cells #[.pointer none, .slice none 0 0] 62))
  clear hx hm
  conv => arg 2; whnf
  have HW0 := Lib.hid (writeString_any w1.heap.size w1.heap.size (Lib.byteCells []) ⟨#[40, 63, 115]⟩ _ HI0.out.1 (by simp [Lib.byteCells, ByteArray.size]) HI0.out.2)
  go_wp2_with fail
  refine HW0.out.mono ?_
  rintro e v0 ⟨rfl, hB0, hf0⟩
  have HI1 : Hid (IsB w1.heap.size w1.heap.size (Lib.byteCells ([] ++ [40, 63, 115])) v0 ∧ w1.heap.size ≤ v0.heap.size) := Lib.hid ⟨by have e : Lib.byteCells ([] ++ [40, 63, 115]) = Lib.byteCells [] ++ Lib.byteCells [40, 63, 115] := (by simp [Lib.byteCells]); rw [e]; exact hB0, Nat.le_trans HI0.out.2 hf0.1.size⟩
  have HL0 := Lib.hid (HLz.out.trans hf0.1)
  clear hB0 hf0 HW0 HI0
  have HI1 : Hid (IsB w1.heap.size w1.heap.size (Lib.byteCells [40, 63, 115]) v0 ∧ w1.heap.size ≤ v0.heap.size) := Lib.hid HI1.out
  have HW1 := Lib.hid (writeString_any w1.heap.size w1.heap.size (Lib.byteCells [40, 63, 115]) ⟨#[41]⟩ _ HI1.out.1 (by simp [Lib.byteCells, ByteArray.size]) HI1.out.2)
  go_wp2_with fail
  refine HW1.out.mono ?_
  rintro e v1 ⟨rfl, hB1, hf1⟩
  have HI2 : Hid (IsB w1.heap.size w1.heap.size (Lib.byteCells ([40, 63, 115] ++ [41])) v1 ∧ w1.heap.size ≤ v1.heap.size) := Lib.hid ⟨by have e : Lib.byteCells ([40, 63, 115] ++ [41]) = Lib.byteCells [40, 63, 115] ++ Lib.byteCells [41] := (by simp [Lib.byteCells]); rw [e]; exact hB1, Nat.le_trans HI1.out.2 hf1.1.size⟩
  have HL1 := Lib.hid (HL0.out.trans hf1.1)
  clear hB1 hf1 HW1 HI1
  have HI2 : Hid (IsB w1.heap.size w1.heap.size (Lib.byteCells [40, 63, 115, 41]) v1 ∧ w1.heap.size ≤ v1.heap.size) := Lib.hid HI2.out
  have HW2 := Lib.hid (writeString_any w1.heap.size w1.heap.size (Lib.byteCells [40, 63, 115, 41]) ⟨#[94]⟩ _ HI2.out.1 (by simp [Lib.byteCells, ByteArray.size]) HI2.out.2)
  go_wp2_with fail
  refine HW2.out.mono ?_
  rintro e v2 ⟨rfl, hB2, hf2⟩
  have HI3 : Hid (IsB w1.heap.size w1.heap.size (Lib.byteCells ([40, 63, 115, 41] ++ [94])) v2 ∧ w1.heap.size ≤ v2.heap.size) := Lib.hid ⟨by have e : Lib.byteCells ([40, 63, 115, 41] ++ [94]) = Lib.byteCells [40, 63, 115, 41] ++ Lib.byteCells [94] := (by simp [Lib.byteCells]); rw [e]; exact hB2, Nat.le_trans HI2.out.2 hf2.1.size⟩
  have HL2 := Lib.hid (HL1.out.trans hf2.1)
  clear hB2 hf2 HW2 HI2
  have HI3 : Hid (IsB w1.heap.size w1.heap.size (Lib.byteCells [40, 63, 115, 41, 94]) v2 ∧ w1.heap.size ≤ v2.heap.size) := Lib.hid HI3.out
  go_upto_region 34 with fail
  rename_i K hK
  have HKK := Lib.hid hK
  clear hK
  go_wp2_with fail
  refine HKK.out _ _ ?_
  refine HX.out _ v2 HI3.out.1 HI3.out.2 HL2.out trivial ?_
  exact ⟨rfl, rfl, rfl, rfl, rfl, rfl⟩
set_option maxRecDepth 1000000 in
set_option maxHeartbeats 4000000 in
theorem head010 (s : ByteArray) (m : Int) (w1 : World) (Q : Exit → Act → World → Prop) (hm : Mx m false false true)
    (hx : ∀ a v, IsB w1.heap.size w1.heap.size (Lib.byteCells (hdr false false true)) v → w1.heap.size ≤ v.heap.size → Below w1.heap.size w1 v → w1.heap.size ≤ v.heap.size → TF s m w1.heap.size v.heap.size (.slice none 0 0) a → Code.wp Tryf.prog rLo2 Q ⟨a, []⟩ (v.alloc (.cells #[.string s, .int .i64 0] 66)))
    (a : Array Value) (hF : QF s m a) : Code.wp Tryf.prog rRest Q ⟨a, []⟩ w1 := by
  refine hF.open (C := fun a => Code.wp Tryf.prog rRest Q ⟨a, []⟩ w1) fun x => ?_
  clear hF a
  have HX := Lib.hid (fun a v h1 h2 h3 (h4 : True) h5 => hx a v h1 h2 h3 h2 h5)
  have h8 := hm.n8
  have h1 := hm.n1
  have h4 := hm.n4
  have HI0 : Hid (IsB w1.heap.size w1.heap.size (Lib.byteCells []) (w1.alloc (.cells #[.pointer none, .slice none 0 0] 62)) ∧ w1.heap.size ≤ (w1.alloc (.cells #[.pointer none, .slice none 0 0] 62)).heap.size) :=
    Lib.hid ⟨Lib.IsBuilderF.of (Lib.fresh_isBuilder 62 5 w1), by simp⟩
  have HLz := Lib.hid ((Below.refl w1.heap.size w1).alloc (Nat.le_refl _) (.cells #[.pointer none, .slice none 0 0] 62))
  clear hx hm
  conv => arg 2; whnf
  have HW0 := Lib.hid (writeString_any w1.heap.size w1.heap.size (Lib.byteCells []) ⟨#[40, 63, 115]⟩ _ HI0.out.1 (by simp [Lib.byteCells, ByteArray.size]) HI0.out.2)
  go_wp2_with fail
  refine HW0.out.mono ?_
  rintro e v0 ⟨rfl, hB0, hf0⟩
  have HI1 : Hid (IsB w1.heap.size w1.heap.size (Lib.byteCells ([] ++ [40, 63, 115])) v0 ∧ w1.heap.size ≤ v0.heap.size) := Lib.hid ⟨by have e : Lib.byteCells ([] ++ [40, 63, 115]) = Lib.byteCells [] ++ Lib.byteCells [40, 63, 115] := (by simp [Lib.byteCells]); rw [e]; exact hB0, Nat.le_trans HI0.out.2 hf0.1.size⟩
  have HL0 := Lib.hid (HLz.out.trans hf0.1)
  clear hB0 hf0 HW0 HI0
  have HI1 : Hid (IsB w1.heap.size w1.heap.size (Lib.byteCells [40, 63, 115]) v0 ∧ w1.heap.size ≤ v0.heap.size) := Lib.hid HI1.out
  have HW1 := Lib.hid (writeString_any w1.heap.size w1.heap.size (Lib.byteCells [40, 63, 115]) ⟨#[85]⟩ _ HI1.out.1 (by simp [Lib.byteCells, ByteArray.size]) HI1.out.2)
  go_wp2_with fail
  refine HW1.out.mono ?_
  rintro e v1 ⟨rfl, hB1, hf1⟩
  have HI2 : Hid (IsB w1.heap.size w1.heap.size (Lib.byteCells ([40, 63, 115] ++ [85])) v1 ∧ w1.heap.size ≤ v1.heap.size) := Lib.hid ⟨by have e : Lib.byteCells ([40, 63, 115] ++ [85]) = Lib.byteCells [40, 63, 115] ++ Lib.byteCells [85] := (by simp [Lib.byteCells]); rw [e]; exact hB1, Nat.le_trans HI1.out.2 hf1.1.size⟩
  have HL1 := Lib.hid (HL0.out.trans hf1.1)
  clear hB1 hf1 HW1 HI1
  have HI2 : Hid (IsB w1.heap.size w1.heap.size (Lib.byteCells [40, 63, 115, 85]) v1 ∧ w1.heap.size ≤ v1.heap.size) := Lib.hid HI2.out
  have HW2 := Lib.hid (writeString_any w1.heap.size w1.heap.size (Lib.byteCells [40, 63, 115, 85]) ⟨#[41]⟩ _ HI2.out.1 (by simp [Lib.byteCells, ByteArray.size]) HI2.out.2)
  go_wp2_with fail
  refine HW2.out.mono ?_
  rintro e v2 ⟨rfl, hB2, hf2⟩
  have HI3 : Hid (IsB w1.heap.size w1.heap.size (Lib.byteCells ([40, 63, 115, 85] ++ [41])) v2 ∧ w1.heap.size ≤ v2.heap.size) := Lib.hid ⟨by have e : Lib.byteCells ([40, 63, 115, 85] ++ [41]) = Lib.byteCells [40, 63, 115, 85] ++ Lib.byteCells [41] := (by simp [Lib.byteCells]); rw [e]; exact hB2, Nat.le_trans HI2.out.2 hf2.1.size⟩
  have HL2 := Lib.hid (HL1.out.trans hf2.1)
  clear hB2 hf2 HW2 HI2
  have HI3 : Hid (IsB w1.heap.size w1.heap.size (Lib.byteCells [40, 63, 115, 85, 41]) v2 ∧ w1.heap.size ≤ v2.heap.size) := Lib.hid HI3.out
  go_upto_region 34 with fail
  rename_i K hK
  have HKK := Lib.hid hK
  clear hK
  go_wp2_with fail
  refine HKK.out _ _ ?_
  refine HX.out _ v2 HI3.out.1 HI3.out.2 HL2.out trivial ?_
  exact ⟨rfl, rfl, rfl, rfl, rfl, rfl⟩
set_option maxRecDepth 1000000 in
set_option maxHeartbeats 4000000 in
theorem head011 (s : ByteArray) (m : Int) (w1 : World) (Q : Exit → Act → World → Prop) (hm : Mx m true false true)
    (hx : ∀ a v, IsB w1.heap.size w1.heap.size (Lib.byteCells (hdr true false true)) v → w1.heap.size ≤ v.heap.size → Below w1.heap.size w1 v → w1.heap.size ≤ v.heap.size → TF s m w1.heap.size v.heap.size (.slice none 0 0) a → Code.wp Tryf.prog rLo2 Q ⟨a, []⟩ (v.alloc (.cells #[.string s, .int .i64 0] 66)))
    (a : Array Value) (hF : QF s m a) : Code.wp Tryf.prog rRest Q ⟨a, []⟩ w1 := by
  refine hF.open (C := fun a => Code.wp Tryf.prog rRest Q ⟨a, []⟩ w1) fun x => ?_
  clear hF a
  have HX := Lib.hid (fun a v h1 h2 h3 (h4 : True) h5 => hx a v h1 h2 h3 h2 h5)
  have h8 := hm.n8
  have h1 := hm.n1
  have h4 := hm.n4
  have HI0 : Hid (IsB w1.heap.size w1.heap.size (Lib.byteCells []) (w1.alloc (.cells #[.pointer none, .slice none 0 0] 62)) ∧ w1.heap.size ≤ (w1.alloc (.cells #[.pointer none, .slice none 0 0] 62)).heap.size) :=
    Lib.hid ⟨Lib.IsBuilderF.of (Lib.fresh_isBuilder 62 5 w1), by simp⟩
  have HLz := Lib.hid ((Below.refl w1.heap.size w1).alloc (Nat.le_refl _) (.cells #[.pointer none, .slice none 0 0] 62))
  clear hx hm
  conv => arg 2; whnf
  have HW0 := Lib.hid (writeString_any w1.heap.size w1.heap.size (Lib.byteCells []) ⟨#[40, 63, 115]⟩ _ HI0.out.1 (by simp [Lib.byteCells, ByteArray.size]) HI0.out.2)
  go_wp2_with fail
  refine HW0.out.mono ?_
  rintro e v0 ⟨rfl, hB0, hf0⟩
  have HI1 : Hid (IsB w1.heap.size w1.heap.size (Lib.byteCells ([] ++ [40, 63, 115])) v0 ∧ w1.heap.size ≤ v0.heap.size) := Lib.hid ⟨by have e : Lib.byteCells ([] ++ [40, 63, 115]) = Lib.byteCells [] ++ Lib.byteCells [40, 63, 115] := (by simp [Lib.byteCells]); rw [e]; exact hB0, Nat.le_trans HI0.out.2 hf0.1.size⟩
  have HL0 := Lib.hid (HLz.out.trans hf0.1)
  clear hB0 hf0 HW0 HI0
  have HI1 : Hid (IsB w1.heap.size w1.heap.size (Lib.byteCells [40, 63, 115]) v0 ∧ w1.heap.size ≤ v0.heap.size) := Lib.hid HI1.out
  have HW1 := Lib.hid (writeString_any w1.heap.size w1.heap.size (Lib.byteCells [40, 63, 115]) ⟨#[85]⟩ _ HI1.out.1 (by simp [Lib.byteCells, ByteArray.size]) HI1.out.2)
  go_wp2_with fail
  refine HW1.out.mono ?_
  rintro e v1 ⟨rfl, hB1, hf1⟩
  have HI2 : Hid (IsB w1.heap.size w1.heap.size (Lib.byteCells ([40, 63, 115] ++ [85])) v1 ∧ w1.heap.size ≤ v1.heap.size) := Lib.hid ⟨by have e : Lib.byteCells ([40, 63, 115] ++ [85]) = Lib.byteCells [40, 63, 115] ++ Lib.byteCells [85] := (by simp [Lib.byteCells]); rw [e]; exact hB1, Nat.le_trans HI1.out.2 hf1.1.size⟩
  have HL1 := Lib.hid (HL0.out.trans hf1.1)
  clear hB1 hf1 HW1 HI1
  have HI2 : Hid (IsB w1.heap.size w1.heap.size (Lib.byteCells [40, 63, 115, 85]) v1 ∧ w1.heap.size ≤ v1.heap.size) := Lib.hid HI2.out
  have HW2 := Lib.hid (writeString_any w1.heap.size w1.heap.size (Lib.byteCells [40, 63, 115, 85]) ⟨#[41]⟩ _ HI2.out.1 (by simp [Lib.byteCells, ByteArray.size]) HI2.out.2)
  go_wp2_with fail
  refine HW2.out.mono ?_
  rintro e v2 ⟨rfl, hB2, hf2⟩
  have HI3 : Hid (IsB w1.heap.size w1.heap.size (Lib.byteCells ([40, 63, 115, 85] ++ [41])) v2 ∧ w1.heap.size ≤ v2.heap.size) := Lib.hid ⟨by have e : Lib.byteCells ([40, 63, 115, 85] ++ [41]) = Lib.byteCells [40, 63, 115, 85] ++ Lib.byteCells [41] := (by simp [Lib.byteCells]); rw [e]; exact hB2, Nat.le_trans HI2.out.2 hf2.1.size⟩
  have HL2 := Lib.hid (HL1.out.trans hf2.1)
  clear hB2 hf2 HW2 HI2
  have HI3 : Hid (IsB w1.heap.size w1.heap.size (Lib.byteCells [40, 63, 115, 85, 41]) v2 ∧ w1.heap.size ≤ v2.heap.size) := Lib.hid HI3.out
  have HW3 := Lib.hid (writeString_any w1.heap.size w1.heap.size (Lib.byteCells [40, 63, 115, 85, 41]) ⟨#[94]⟩ _ HI3.out.1 (by simp [Lib.byteCells, ByteArray.size]) HI3.out.2)
  go_wp2_with fail
  refine HW3.out.mono ?_
  rintro e v3 ⟨rfl, hB3, hf3⟩
  have HI4 : Hid (IsB w1.heap.size w1.heap.size (Lib.byteCells ([40, 63, 115, 85, 41] ++ [94])) v3 ∧ w1.heap.size ≤ v3.heap.size) := Lib.hid ⟨by have e : Lib.byteCells ([40, 63, 115, 85, 41] ++ [94]) = Lib.byteCells [40, 63, 115, 85, 41] ++ Lib.byteCells [94] := (by simp [Lib.byteCells]); rw [e]; exact hB3, Nat.le_trans HI3.out.2 hf3.1.size⟩
  have HL3 := Lib.hid (HL2.out.trans hf3.1)
  clear hB3 hf3 HW3 HI3
  have HI4 : Hid (IsB w1.heap.size w1.heap.size (Lib.byteCells [40, 63, 115, 85, 41, 94]) v3 ∧ w1.heap.size ≤ v3.heap.size) := Lib.hid HI4.out
  go_upto_region 34 with fail
  rename_i K hK
  have HKK := Lib.hid hK
  clear hK
  go_wp2_with fail
  refine HKK.out _ _ ?_
  refine HX.out _ v3 HI4.out.1 HI4.out.2 HL3.out trivial ?_
  exact ⟨rfl, rfl, rfl, rfl, rfl, rfl⟩
set_option maxRecDepth 1000000 in
set_option maxHeartbeats 4000000 in
theorem head100 (s : ByteArray) (m : Int) (w1 : World) (Q : Exit → Act → World → Prop) (hm : Mx m false true false)
    (hx : ∀ a v, IsB w1.heap.size w1.heap.size (Lib.byteCells (hdr false true false)) v → w1.heap.size ≤ v.heap.size → Below w1.heap.size w1 v → w1.heap.size ≤ v.heap.size → TF s m w1.heap.size v.heap.size (.slice none 0 0) a → Code.wp Tryf.prog rLo2 Q ⟨a, []⟩ (v.alloc (.cells #[.string s, .int .i64 0] 66)))
    (a : Array Value) (hF : QF s m a) : Code.wp Tryf.prog rRest Q ⟨a, []⟩ w1 := by
  refine hF.open (C := fun a => Code.wp Tryf.prog rRest Q ⟨a, []⟩ w1) fun x => ?_
  clear hF a
  have HX := Lib.hid (fun a v h1 h2 h3 (h4 : True) h5 => hx a v h1 h2 h3 h2 h5)
  have h8 := hm.n8
  have h1 := hm.n1
  have h4 := hm.n4
  have HI0 : Hid (IsB w1.heap.size w1.heap.size (Lib.byteCells []) (w1.alloc (.cells #[.pointer none, .slice none 0 0] 62)) ∧ w1.heap.size ≤ (w1.alloc (.cells #[.pointer none, .slice none 0 0] 62)).heap.size) :=
    Lib.hid ⟨Lib.IsBuilderF.of (Lib.fresh_isBuilder 62 5 w1), by simp⟩
  have HLz := Lib.hid ((Below.refl w1.heap.size w1).alloc (Nat.le_refl _) (.cells #[.pointer none, .slice none 0 0] 62))
  clear hx hm
  conv => arg 2; whnf
  have HW0 := Lib.hid (writeString_any w1.heap.size w1.heap.size (Lib.byteCells []) ⟨#[40, 63, 115]⟩ _ HI0.out.1 (by simp [Lib.byteCells, ByteArray.size]) HI0.out.2)
  go_wp2_with fail
  refine HW0.out.mono ?_
  rintro e v0 ⟨rfl, hB0, hf0⟩
  have HI1 : Hid (IsB w1.heap.size w1.heap.size (Lib.byteCells ([] ++ [40, 63, 115])) v0 ∧ w1.heap.size ≤ v0.heap.size) := Lib.hid ⟨by have e : Lib.byteCells ([] ++ [40, 63, 115]) = Lib.byteCells [] ++ Lib.byteCells [40, 63, 115] := (by simp [Lib.byteCells]); rw [e]; exact hB0, Nat.le_trans HI0.out.2 hf0.1.size⟩
  have HL0 := Lib.hid (HLz.out.trans hf0.1)
  clear hB0 hf0 HW0 HI0
  have HI1 : Hid (IsB w1.heap.size w1.heap.size (Lib.byteCells [40, 63, 115]) v0 ∧ w1.heap.size ≤ v0.heap.size) := Lib.hid HI1.out
  have HW1 := Lib.hid (writeString_any w1.heap.size w1.heap.size (Lib.byteCells [40, 63, 115]) ⟨#[105]⟩ _ HI1.out.1 (by simp [Lib.byteCells, ByteArray.size]) HI1.out.2)
  go_wp2_with fail
  refine HW1.out.mono ?_
  rintro e v1 ⟨rfl, hB1, hf1⟩
  have HI2 : Hid (IsB w1.heap.size w1.heap.size (Lib.byteCells ([40, 63, 115] ++ [105])) v1 ∧ w1.heap.size ≤ v1.heap.size) := Lib.hid ⟨by have e : Lib.byteCells ([40, 63, 115] ++ [105]) = Lib.byteCells [40, 63, 115] ++ Lib.byteCells [105] := (by simp [Lib.byteCells]); rw [e]; exact hB1, Nat.le_trans HI1.out.2 hf1.1.size⟩
  have HL1 := Lib.hid (HL0.out.trans hf1.1)
  clear hB1 hf1 HW1 HI1
  have HI2 : Hid (IsB w1.heap.size w1.heap.size (Lib.byteCells [40, 63, 115, 105]) v1 ∧ w1.heap.size ≤ v1.heap.size) := Lib.hid HI2.out
  have HW2 := Lib.hid (writeString_any w1.heap.size w1.heap.size (Lib.byteCells [40, 63, 115, 105]) ⟨#[41]⟩ _ HI2.out.1 (by simp [Lib.byteCells, ByteArray.size]) HI2.out.2)
  go_wp2_with fail
  refine HW2.out.mono ?_
  rintro e v2 ⟨rfl, hB2, hf2⟩
  have HI3 : Hid (IsB w1.heap.size w1.heap.size (Lib.byteCells ([40, 63, 115, 105] ++ [41])) v2 ∧ w1.heap.size ≤ v2.heap.size) := Lib.hid ⟨by have e : Lib.byteCells ([40, 63, 115, 105] ++ [41]) = Lib.byteCells [40, 63, 115, 105] ++ Lib.byteCells [41] := (by simp [Lib.byteCells]); rw [e]; exact hB2, Nat.le_trans HI2.out.2 hf2.1.size⟩
  have HL2 := Lib.hid (HL1.out.trans hf2.1)
  clear hB2 hf2 HW2 HI2
  have HI3 : Hid (IsB w1.heap.size w1.heap.size (Lib.byteCells [40, 63, 115, 105, 41]) v2 ∧ w1.heap.size ≤ v2.heap.size) := Lib.hid HI3.out
  go_upto_region 34 with fail
  rename_i K hK
  have HKK := Lib.hid hK
  clear hK
  go_wp2_with fail
  refine HKK.out _ _ ?_
  refine HX.out _ v2 HI3.out.1 HI3.out.2 HL2.out trivial ?_
  exact ⟨rfl, rfl, rfl, rfl, rfl, rfl⟩
set_option maxRecDepth 1000000 in
set_option maxHeartbeats 4000000 in
theorem head101 (s : ByteArray) (m : Int) (w1 : World) (Q : Exit → Act → World → Prop) (hm : Mx m true true false)
    (hx : ∀ a v, IsB w1.heap.size w1.heap.size (Lib.byteCells (hdr true true false)) v → w1.heap.size ≤ v.heap.size → Below w1.heap.size w1 v → w1.heap.size ≤ v.heap.size → TF s m w1.heap.size v.heap.size (.slice none 0 0) a → Code.wp Tryf.prog rLo2 Q ⟨a, []⟩ (v.alloc (.cells #[.string s, .int .i64 0] 66)))
    (a : Array Value) (hF : QF s m a) : Code.wp Tryf.prog rRest Q ⟨a, []⟩ w1 := by
  refine hF.open (C := fun a => Code.wp Tryf.prog rRest Q ⟨a, []⟩ w1) fun x => ?_
  clear hF a
  have HX := Lib.hid (fun a v h1 h2 h3 (h4 : True) h5 => hx a v h1 h2 h3 h2 h5)
  have h8 := hm.n8
  have h1 := hm.n1
  have h4 := hm.n4
  have HI0 : Hid (IsB w1.heap.size w1.heap.size (Lib.byteCells []) (w1.alloc (.cells #[.pointer none, .slice none 0 0] 62)) ∧ w1.heap.size ≤ (w1.alloc (.cells #[.pointer none, .slice none 0 0] 62)).heap.size) :=
    Lib.hid ⟨Lib.IsBuilderF.of (Lib.fresh_isBuilder 62 5 w1), by simp⟩
  have HLz := Lib.hid ((Below.refl w1.heap.size w1).alloc (Nat.le_refl _) (.cells #[.pointer none, .slice none 0 0] 62))
  clear hx hm
  conv => arg 2; whnf
  have HW0 := Lib.hid (writeString_any w1.heap.size w1.heap.size (Lib.byteCells []) ⟨#[40, 63, 115]⟩ _ HI0.out.1 (by simp [Lib.byteCells, ByteArray.size]) HI0.out.2)
  go_wp2_with fail
  refine HW0.out.mono ?_
  rintro e v0 ⟨rfl, hB0, hf0⟩
  have HI1 : Hid (IsB w1.heap.size w1.heap.size (Lib.byteCells ([] ++ [40, 63, 115])) v0 ∧ w1.heap.size ≤ v0.heap.size) := Lib.hid ⟨by have e : Lib.byteCells ([] ++ [40, 63, 115]) = Lib.byteCells [] ++ Lib.byteCells [40, 63, 115] := (by simp [Lib.byteCells]); rw [e]; exact hB0, Nat.le_trans HI0.out.2 hf0.1.size⟩
  have HL0 := Lib.hid (HLz.out.trans hf0.1)
  clear hB0 hf0 HW0 HI0
  have HI1 : Hid (IsB w1.heap.size w1.heap.size (Lib.byteCells [40, 63, 115]) v0 ∧ w1.heap.size ≤ v0.heap.size) := Lib.hid HI1.out
  have HW1 := Lib.hid (writeString_any w1.heap.size w1.heap.size (Lib.byteCells [40, 63, 115]) ⟨#[105]⟩ _ HI1.out.1 (by simp [Lib.byteCells, ByteArray.size]) HI1.out.2)
  go_wp2_with fail
  refine HW1.out.mono ?_
  rintro e v1 ⟨rfl, hB1, hf1⟩
  have HI2 : Hid (IsB w1.heap.size w1.heap.size (Lib.byteCells ([40, 63, 115] ++ [105])) v1 ∧ w1.heap.size ≤ v1.heap.size) := Lib.hid ⟨by have e : Lib.byteCells ([40, 63, 115] ++ [105]) = Lib.byteCells [40, 63, 115] ++ Lib.byteCells [105] := (by simp [Lib.byteCells]); rw [e]; exact hB1, Nat.le_trans HI1.out.2 hf1.1.size⟩
  have HL1 := Lib.hid (HL0.out.trans hf1.1)
  clear hB1 hf1 HW1 HI1
  have HI2 : Hid (IsB w1.heap.size w1.heap.size (Lib.byteCells [40, 63, 115, 105]) v1 ∧ w1.heap.size ≤ v1.heap.size) := Lib.hid HI2.out
  have HW2 := Lib.hid (writeString_any w1.heap.size w1.heap.size (Lib.byteCells [40, 63, 115, 105]) ⟨#[41]⟩ _ HI2.out.1 (by simp [Lib.byteCells, ByteArray.size]) HI2.out.2)
  go_wp2_with fail
  refine HW2.out.mono ?_
  rintro e v2 ⟨rfl, hB2, hf2⟩
  have HI3 : Hid (IsB w1.heap.size w1.heap.size (Lib.byteCells ([40, 63, 115, 105] ++ [41])) v2 ∧ w1.heap.size ≤ v2.heap.size) := Lib.hid ⟨by have e : Lib.byteCells ([40, 63, 115, 105] ++ [41]) = Lib.byteCells [40, 63, 115, 105] ++ Lib.byteCells [41] := (by simp [Lib.byteCells]); rw [e]; exact hB2, Nat.le_trans HI2.out.2 hf2.1.size⟩
  have HL2 := Lib.hid (HL1.out.trans hf2.1)
  clear hB2 hf2 HW2 HI2
  have HI3 : Hid (IsB w1.heap.size w1.heap.size (Lib.byteCells [40, 63, 115, 105, 41]) v2 ∧ w1.heap.size ≤ v2.heap.size) := Lib.hid HI3.out
  have HW3 := Lib.hid (writeString_any w1.heap.size w1.heap.size (Lib.byteCells [40, 63, 115, 105, 41]) ⟨#[94]⟩ _ HI3.out.1 (by simp [Lib.byteCells, ByteArray.size]) HI3.out.2)
  go_wp2_with fail
  refine HW3.out.mono ?_
  rintro e v3 ⟨rfl, hB3, hf3⟩
  have HI4 : Hid (IsB w1.heap.size w1.heap.size (Lib.byteCells ([40, 63, 115, 105, 41] ++ [94])) v3 ∧ w1.heap.size ≤ v3.heap.size) := Lib.hid ⟨by have e : Lib.byteCells ([40, 63, 115, 105, 41] ++ [94]) = Lib.byteCells [40, 63, 115, 105, 41] ++ Lib.byteCells [94] := (by simp [Lib.byteCells]); rw [e]; exact hB3, Nat.le_trans HI3.out.2 hf3.1.size⟩
  have HL3 := Lib.hid (HL2.out.trans hf3.1)
  clear hB3 hf3 HW3 HI3
  have HI4 : Hid (IsB w1.heap.size w1.heap.size (Lib.byteCells [40, 63, 115, 105, 41, 94]) v3 ∧ w1.heap.size ≤ v3.heap.size) := Lib.hid HI4.out
  go_upto_region 34 with fail
  rename_i K hK
  have HKK := Lib.hid hK
  clear hK
  go_wp2_with fail
  refine HKK.out _ _ ?_
  refine HX.out _ v3 HI4.out.1 HI4.out.2 HL3.out trivial ?_
  exact ⟨rfl, rfl, rfl, rfl, rfl, rfl⟩
set_option maxRecDepth 1000000 in
set_option maxHeartbeats 4000000 in
theorem head110 (s : ByteArray) (m : Int) (w1 : World) (Q : Exit → Act → World → Prop) (hm : Mx m false true true)
    (hx : ∀ a v, IsB w1.heap.size w1.heap.size (Lib.byteCells (hdr false true true)) v → w1.heap.size ≤ v.heap.size → Below w1.heap.size w1 v → w1.heap.size ≤ v.heap.size → TF s m w1.heap.size v.heap.size (.slice none 0 0) a → Code.wp Tryf.prog rLo2 Q ⟨a, []⟩ (v.alloc (.cells #[.string s, .int .i64 0] 66)))
    (a : Array Value) (hF : QF s m a) : Code.wp Tryf.prog rRest Q ⟨a, []⟩ w1 := by
  refine hF.open (C := fun a => Code.wp Tryf.prog rRest Q ⟨a, []⟩ w1) fun x => ?_
  clear hF a
  have HX := Lib.hid (fun a v h1 h2 h3 (h4 : True) h5 => hx a v h1 h2 h3 h2 h5)
  have h8 := hm.n8
  have h1 := hm.n1
  have h4 := hm.n4
  have HI0 : Hid (IsB w1.heap.size w1.heap.size (Lib.byteCells []) (w1.alloc (.cells #[.pointer none, .slice none 0 0] 62)) ∧ w1.heap.size ≤ (w1.alloc (.cells #[.pointer none, .slice none 0 0] 62)).heap.size) :=
    Lib.hid ⟨Lib.IsBuilderF.of (Lib.fresh_isBuilder 62 5 w1), by simp⟩
  have HLz := Lib.hid ((Below.refl w1.heap.size w1).alloc (Nat.le_refl _) (.cells #[.pointer none, .slice none 0 0] 62))
  clear hx hm
  conv => arg 2; whnf
  have HW0 := Lib.hid (writeString_any w1.heap.size w1.heap.size (Lib.byteCells []) ⟨#[40, 63, 115]⟩ _ HI0.out.1 (by simp [Lib.byteCells, ByteArray.size]) HI0.out.2)
  go_wp2_with fail
  refine HW0.out.mono ?_
  rintro e v0 ⟨rfl, hB0, hf0⟩
  have HI1 : Hid (IsB w1.heap.size w1.heap.size (Lib.byteCells ([] ++ [40, 63, 115])) v0 ∧ w1.heap.size ≤ v0.heap.size) := Lib.hid ⟨by have e : Lib.byteCells ([] ++ [40, 63, 115]) = Lib.byteCells [] ++ Lib.byteCells [40, 63, 115] := (by simp [Lib.byteCells]); rw [e]; exact hB0, Nat.le_trans HI0.out.2 hf0.1.size⟩
  have HL0 := Lib.hid (HLz.out.trans hf0.1)
  clear hB0 hf0 HW0 HI0
  have HI1 : Hid (IsB w1.heap.size w1.heap.size (Lib.byteCells [40, 63, 115]) v0 ∧ w1.heap.size ≤ v0.heap.size) := Lib.hid HI1.out
  have HW1 := Lib.hid (writeString_any w1.heap.size w1.heap.size (Lib.byteCells [40, 63, 115]) ⟨#[105]⟩ _ HI1.out.1 (by simp [Lib.byteCells, ByteArray.size]) HI1.out.2)
  go_wp2_with fail
  refine HW1.out.mono ?_
  rintro e v1 ⟨rfl, hB1, hf1⟩
  have HI2 : Hid (IsB w1.heap.size w1.heap.size (Lib.byteCells ([40, 63, 115] ++ [105])) v1 ∧ w1.heap.size ≤ v1.heap.size) := Lib.hid ⟨by have e : Lib.byteCells ([40, 63, 115] ++ [105]) = Lib.byteCells [40, 63, 115] ++ Lib.byteCells [105] := (by simp [Lib.byteCells]); rw [e]; exact hB1, Nat.le_trans HI1.out.2 hf1.1.size⟩
  have HL1 := Lib.hid (HL0.out.trans hf1.1)
  clear hB1 hf1 HW1 HI1
  have HI2 : Hid (IsB w1.heap.size w1.heap.size (Lib.byteCells [40, 63, 115, 105]) v1 ∧ w1.heap.size ≤ v1.heap.size) := Lib.hid HI2.out
  have HW2 := Lib.hid (writeString_any w1.heap.size w1.heap.size (Lib.byteCells [40, 63, 115, 105]) ⟨#[85]⟩ _ HI2.out.1 (by simp [Lib.byteCells, ByteArray.size]) HI2.out.2)
  go_wp2_with fail
  refine HW2.out.mono ?_
  rintro e v2 ⟨rfl, hB2, hf2⟩
  have HI3 : Hid (IsB w1.heap.size w1.heap.size (Lib.byteCells ([40, 63, 115, 105] ++ [85])) v2 ∧ w1.heap.size ≤ v2.heap.size) := Lib.hid ⟨by have e : Lib.byteCells ([40, 63, 115, 105] ++ [85]) = Lib.byteCells [40, 63, 115, 105] ++ Lib.byteCells [85] := (by simp [Lib.byteCells]); rw [e]; exact hB2, Nat.le_trans HI2.out.2 hf2.1.size⟩
  have HL2 := Lib.hid (HL1.out.trans hf2.1)
  clear hB2 hf2 HW2 HI2
  have HI3 : Hid (IsB w1.heap.size w1.heap.size (Lib.byteCells [40, 63, 115, 105, 85]) v2 ∧ w1.heap.size ≤ v2.heap.size) := Lib.hid HI3.out
  have HW3 := Lib.hid (writeString_any w1.heap.size w1.heap.size (Lib.byteCells [40, 63, 115, 105, 85]) ⟨#[41]⟩ _ HI3.out.1 (by simp [Lib.byteCells, ByteArray.size]) HI3.out.2)
  go_wp2_with fail
  refine HW3.out.mono ?_
  rintro e v3 ⟨rfl, hB3, hf3⟩
  have HI4 : Hid (IsB w1.heap.size w1.heap.size (Lib.byteCells ([40, 63, 115, 105, 85] ++ [41])) v3 ∧ w1.heap.size ≤ v3.heap.size) := Lib.hid ⟨by have e : Lib.byteCells ([40, 63, 115, 105, 85] ++ [41]) = Lib.byteCells [40, 63, 115, 105, 85] ++ Lib.byteCells [41] := (by simp [Lib.byteCells]); rw [e]; exact hB3, Nat.le_trans HI3.out.2 hf3.1.size⟩
  have HL3 := Lib.hid (HL2.out.trans hf3.1)
  clear hB3 hf3 HW3 HI3
  have HI4 : Hid (IsB w1.heap.size w1.heap.size (Lib.byteCells [40, 63, 115, 105, 85, 41]) v3 ∧ w1.heap.size ≤ v3.heap.size) := Lib.hid HI4.out
  go_upto_region 34 with fail
  rename_i K hK
  have HKK := Lib.hid hK
  clear hK
  go_wp2_with fail
  refine HKK.out _ _ ?_
  refine HX.out _ v3 HI4.out.1 HI4.out.2 HL3.out trivial ?_
  exact ⟨rfl, rfl, rfl, rfl, rfl, rfl⟩
set_option maxRecDepth 1000000 in
set_option maxHeartbeats 4000000 in
theorem head111 (s : ByteArray) (m : Int) (w1 : World) (Q : Exit → Act → World → Prop) (hm : Mx m true true true)
    (hx : ∀ a v, IsB w1.heap.size w1.heap.size (Lib.byteCells (hdr true true true)) v → w1.heap.size ≤ v.heap.size → Below w1.heap.size w1 v → w1.heap.size ≤ v.heap.size → TF s m w1.heap.size v.heap.size (.slice none 0 0) a → Code.wp Tryf.prog rLo2 Q ⟨a, []⟩ (v.alloc (.cells #[.string s, .int .i64 0] 66)))
    (a : Array Value) (hF : QF s m a) : Code.wp Tryf.prog rRest Q ⟨a, []⟩ w1 := by
  refine hF.open (C := fun a => Code.wp Tryf.prog rRest Q ⟨a, []⟩ w1) fun x => ?_
  clear hF a
  have HX := Lib.hid (fun a v h1 h2 h3 (h4 : True) h5 => hx a v h1 h2 h3 h2 h5)
  have h8 := hm.n8
  have h1 := hm.n1
  have h4 := hm.n4
  have HI0 : Hid (IsB w1.heap.size w1.heap.size (Lib.byteCells []) (w1.alloc (.cells #[.pointer none, .slice none 0 0] 62)) ∧ w1.heap.size ≤ (w1.alloc (.cells #[.pointer none, .slice none 0 0] 62)).heap.size) :=
    Lib.hid ⟨Lib.IsBuilderF.of (Lib.fresh_isBuilder 62 5 w1), by simp⟩
  have HLz := Lib.hid ((Below.refl w1.heap.size w1).alloc (Nat.le_refl _) (.cells #[.pointer none, .slice none 0 0] 62))
  clear hx hm
  conv => arg 2; whnf
  have HW0 := Lib.hid (writeString_any w1.heap.size w1.heap.size (Lib.byteCells []) ⟨#[40, 63, 115]⟩ _ HI0.out.1 (by simp [Lib.byteCells, ByteArray.size]) HI0.out.2)
  go_wp2_with fail
  refine HW0.out.mono ?_
  rintro e v0 ⟨rfl, hB0, hf0⟩
  have HI1 : Hid (IsB w1.heap.size w1.heap.size (Lib.byteCells ([] ++ [40, 63, 115])) v0 ∧ w1.heap.size ≤ v0.heap.size) := Lib.hid ⟨by have e : Lib.byteCells ([] ++ [40, 63, 115]) = Lib.byteCells [] ++ Lib.byteCells [40, 63, 115] := (by simp [Lib.byteCells]); rw [e]; exact hB0, Nat.le_trans HI0.out.2 hf0.1.size⟩
  have HL0 := Lib.hid (HLz.out.trans hf0.1)
  clear hB0 hf0 HW0 HI0
  have HI1 : Hid (IsB w1.heap.size w1.heap.size (Lib.byteCells [40, 63, 115]) v0 ∧ w1.heap.size ≤ v0.heap.size) := Lib.hid HI1.out
  have HW1 := Lib.hid (writeString_any w1.heap.size w1.heap.size (Lib.byteCells [40, 63, 115]) ⟨#[105]⟩ _ HI1.out.1 (by simp [Lib.byteCells, ByteArray.size]) HI1.out.2)
  go_wp2_with fail
  refine HW1.out.mono ?_
  rintro e v1 ⟨rfl, hB1, hf1⟩
  have HI2 : Hid (IsB w1.heap.size w1.heap.size (Lib.byteCells ([40, 63, 115] ++ [105])) v1 ∧ w1.heap.size ≤ v1.heap.size) := Lib.hid ⟨by have e : Lib.byteCells ([40, 63, 115] ++ [105]) = Lib.byteCells [40, 63, 115] ++ Lib.byteCells [105] := (by simp [Lib.byteCells]); rw [e]; exact hB1, Nat.le_trans HI1.out.2 hf1.1.size⟩
  have HL1 := Lib.hid (HL0.out.trans hf1.1)
  clear hB1 hf1 HW1 HI1
  have HI2 : Hid (IsB w1.heap.size w1.heap.size (Lib.byteCells [40, 63, 115, 105]) v1 ∧ w1.heap.size ≤ v1.heap.size) := Lib.hid HI2.out
  have HW2 := Lib.hid (writeString_any w1.heap.size w1.heap.size (Lib.byteCells [40, 63, 115, 105]) ⟨#[85]⟩ _ HI2.out.1 (by simp [Lib.byteCells, ByteArray.size]) HI2.out.2)
  go_wp2_with fail
  refine HW2.out.mono ?_
  rintro e v2 ⟨rfl, hB2, hf2⟩
  have HI3 : Hid (IsB w1.heap.size w1.heap.size (Lib.byteCells ([40, 63, 115, 105] ++ [85])) v2 ∧ w1.heap.size ≤ v2.heap.size) := Lib.hid ⟨by have e : Lib.byteCells ([40, 63, 115, 105] ++ [85]) = Lib.byteCells [40, 63, 115, 105] ++ Lib.byteCells [85] := (by simp [Lib.byteCells]); rw [e]; exact hB2, Nat.le_trans HI2.out.2 hf2.1.size⟩
  have HL2 := Lib.hid (HL1.out.trans hf2.1)
  clear hB2 hf2 HW2 HI2
  have HI3 : Hid (IsB w1.heap.size w1.heap.size (Lib.byteCells [40, 63, 115, 105, 85]) v2 ∧ w1.heap.size ≤ v2.heap.size) := Lib.hid HI3.out
  have HW3 := Lib.hid (writeString_any w1.heap.size w1.heap.size (Lib.byteCells [40, 63, 115, 105, 85]) ⟨#[41]⟩ _ HI3.out.1 (by simp [Lib.byteCells, ByteArray.size]) HI3.out.2)
  go_wp2_with fail
  refine HW3.out.mono ?_
  rintro e v3 ⟨rfl, hB3, hf3⟩
  have HI4 : Hid (IsB w1.heap.size w1.heap.size (Lib.byteCells ([40, 63, 115, 105, 85] ++ [41])) v3 ∧ w1.heap.size ≤ v3.heap.size) := Lib.hid ⟨by have e : Lib.byteCells ([40, 63, 115, 105, 85] ++ [41]) = Lib.byteCells [40, 63, 115, 105, 85] ++ Lib.byteCells [41] := (by simp [Lib.byteCells]); rw [e]; exact hB3, Nat.le_trans HI3.out.2 hf3.1.size⟩
  have HL3 := Lib.hid (HL2.out.trans hf3.1)
  clear hB3 hf3 HW3 HI3
  have HI4 : Hid (IsB w1.heap.size w1.heap.size (Lib.byteCells [40, 63, 115, 105, 85, 41]) v3 ∧ w1.heap.size ≤ v3.heap.size) := Lib.hid HI4.out
  have HW4 := Lib.hid (writeString_any w1.heap.size w1.heap.size (Lib.byteCells [40, 63, 115, 105, 85, 41]) ⟨#[94]⟩ _ HI4.out.1 (by simp [Lib.byteCells, ByteArray.size]) HI4.out.2)
  go_wp2_with fail
  refine HW4.out.mono ?_
  rintro e v4 ⟨rfl, hB4, hf4⟩
  have HI5 : Hid (IsB w1.heap.size w1.heap.size (Lib.byteCells ([40, 63, 115, 105, 85, 41] ++ [94])) v4 ∧ w1.heap.size ≤ v4.heap.size) := Lib.hid ⟨by have e : Lib.byteCells ([40, 63, 115, 105, 85, 41] ++ [94]) = Lib.byteCells [40, 63, 115, 105, 85, 41] ++ Lib.byteCells [94] := (by simp [Lib.byteCells]); rw [e]; exact hB4, Nat.le_trans HI4.out.2 hf4.1.size⟩
  have HL4 := Lib.hid (HL3.out.trans hf4.1)
  clear hB4 hf4 HW4 HI4
  have HI5 : Hid (IsB w1.heap.size w1.heap.size (Lib.byteCells [40, 63, 115, 105, 85, 41, 94]) v4 ∧ w1.heap.size ≤ v4.heap.size) := Lib.hid HI5.out
  go_upto_region 34 with fail
  rename_i K hK
  have HKK := Lib.hid hK
  clear hK
  go_wp2_with fail
  refine HKK.out _ _ ?_
  refine HX.out _ v4 HI5.out.1 HI5.out.2 HL4.out trivial ?_
  exact ⟨rfl, rfl, rfl, rfl, rfl, rfl⟩
end Go.Proofs.YtonifkkdokaooaaFmt

/- pattern.Regexp: the contract. -/
namespace Go.Proofs.YtonifkkdokaooaaFmt
open Go.RowKit Go.Extern.Stop Go.Stop Go.Extern
set_option linter.unusedVariables false

/-- what Regexp returns: a text; the groups that are not to be matched; a fault of form -/
inductive RO where
  | ok (t : List UInt8)
  | neg (gs : List (Nat × Nat))
  | syn
def rOut (ent : Bool) : RR → RO
  | .syn => .syn
  | .done acc gs => if gs = [] then .ok (acc ++ if ent then [36] else []) else .neg gs
def regexpM (md : Md) (ent nc sho : Bool) (s : ByteArray) : RO :=
  if (ent || nc) = false ∧ shc s (s.size + 1) 0 = false then .ok s.data.toList
  else rOut ent (loopR md s (s.size + 1) 0 (hdr ent nc sho) [])
def RegPost (r : RO) (n : Nat) (w : World) (e : Ending) (w' : World) : Prop := Below w.heap.size w w' ∧
  match r with
  | .ok t => e = .returned (.tuple #[.string ⟨t.toArray⟩, .nilIface])
  | .neg gs => ∃ p gv, e = .returned (.tuple #[.string ⟨#[]⟩, .iface 45 (.pointer (some ⟨p, 0, none⟩))]) ∧ w'.heap[p]? = some (.cells #[gv] 50 (0, 0)) ∧ w'.ownsRow w.heap.size tG 2 gv gs.length (grCells gs) ∧ gs.length ≤ n
  | .syn => ∃ v, e = .returned (.tuple #[.string ⟨#[]⟩, v]) ∧ SynErr w' v
/-- what stands at the beginning of a call of Regexp -/
structure RPre (F : Interp) (s : ByteArray) (pe : Addr) (w : World) : Prop where
  T : Tabs w
  E : w.cell? ⟨gE, 0, none⟩ = some (eofV pe)
  F : F.answers w.tape
  hs : s.size ≤ 4398046511104
  gB : GG w.heap.size
def RetQ2 (Q : Exit → Act → World → Prop) (Post : Ending → World → Prop) : Prop := ∀ (a : Array Value) (w : World) (v u : Value), a.size = 91 → a[4]? = some v → a[5]? = some u → Post (.returned (.tuple #[v, u])) w → Q .ret ⟨a, []⟩ w
theorem ownsRow.le {w : World} {B B' : Nat} {e : TypeId} {n k : Nat} {v : Value} {xs : List Value} (h : w.ownsRow B e n v k xs) (hB : B' ≤ B) : w.ownsRow B' e n v k xs := by
  refine ⟨h.1, ?_⟩
  rcases h.2 with hn | ⟨g, cap, cur, hv, hb, rest⟩
  · exact .inl hn
  · exact .inr ⟨g, cap, cur, hv, Nat.le_trans hB hb, rest⟩

theorem lo2_all (F : Interp) (B b ls : Nat) (s : ByteArray) (pe : Addr) (m : Int) (md : Md) (ent nc sho : Bool) (w0 w : World) (Post : Ending → World → Prop) (Q : Exit → Act → World → Prop) (hm : Mo m md) (hx : Mx m ent nc sho) (hQ : RetQ2 Q Post)
    (hT : TW F B b ls s pe w0 0 (hdr ent nc sho) (.slice none 0 0) [] w) (hP : ∀ e w', RegPost (rOut ent (loopR md s (s.size + 1) 0 (hdr ent nc sho) [])) s.size w0 e w' → Post e w')
    (a : Array Value) (hF : TF s m b ls (.slice none 0 0) a) : Code.wp Tryf.prog rLo2 Q ⟨a, []⟩ w := by
  rw [rLo2_eq]
  refine wp_seq (wp_block (wp_loop_rounds (s.size + 1) ?_))
  refine t_rounds F B b ls s pe m md w0 (Exit.inBlock 3 (Exit.then (rFin.wp Tryf.prog Q) Q)) _ hm ?_ ?_ (s.size + 1) 0 (hdr ent nc sho) (.slice none 0 0) [] w a hF hT (by omega) rfl
  · intro acc gs gv i' a' w' hF' hT' hR
    rw [hR] at hP
    show Code.wp Tryf.prog rFin Q ⟨a', []⟩ w'
    by_cases hgs : gs = []
    · subst hgs
      cases hen : ent with
      | true =>
        rw [hen] at hP
        exact fin_ok1 F B b ls s pe m ent nc sho w0 w' i' acc gv [] Q hx hT' rfl hen (fun a w' h1 h2 h3 h4 => hQ a w' _ _ h1 h2 h3 (hP _ _ ⟨h4, by simp [rOut]⟩)) a' hF'
      | false =>
        rw [hen] at hP
        exact fin_ok0 F B b ls s pe m ent nc sho w0 w' i' acc gv [] Q hx hT' rfl hen (fun a w' h1 h2 h3 h4 => hQ a w' _ _ h1 h2 h3 (hP _ _ ⟨h4, by simp [rOut]⟩)) a' hF'
    · have hr : rOut ent (.done acc gs) = .neg gs := by simp [rOut, hgs]
      rw [hr] at hP
      have h1 := hT'.gl; have h2 := hT'.pre.hi
      exact fin_neg F B b ls s pe m ent nc sho w0 w' i' acc gv gs Q hx hT' hgs (fun a w' p h1 h2 h3 h4 h5 h6 => hQ a w' _ _ h1 h2 h3 (hP _ _ ⟨h6, p, gv, rfl, h4, ownsRow.le h5 hT'.le, by omega⟩)) a' hF'
  · intro a' w' v h1 h2 h3 h4 h5 hR
    rw [hR] at hP
    exact hQ a' w' _ _ h1 h2 h3 (hP _ _ ⟨h5, v, rfl, h4⟩)

theorem rest2_all (F : Interp) (s : ByteArray) (pe : Addr) (m : Int) (md : Md) (ent nc sho : Bool) (w0 w : World) (Post : Ending → World → Prop) (Q : Exit → Act → World → Prop) (hm : Mo m md) (hx : Mx m ent nc sho) (hQ : RetQ2 Q Post) (hp : RPre F s pe w0) (hb : Below w0.heap.size w0 w)
    (hP : ∀ e w', RegPost (rOut ent (loopR md s (s.size + 1) 0 (hdr ent nc sho) [])) s.size w0 e w' → Post e w')
    (a : Array Value) (hF : QF s m a) : Code.wp Tryf.prog rRest Q ⟨a, []⟩ w := by
  have key : ∀ a v, IsB w.heap.size w.heap.size (Lib.byteCells (hdr ent nc sho)) v → w.heap.size ≤ v.heap.size → Below w.heap.size w v → w.heap.size ≤ v.heap.size → TF s m w.heap.size v.heap.size (.slice none 0 0) a → Code.wp Tryf.prog rLo2 Q ⟨a, []⟩ (v.alloc (.cells #[.string s, .int .i64 0] 66)) := by
    intro a v hB hle hbv _ hF
    have hb2 : Below w0.heap.size w0 v := hb.trans (hbv.mono hb.size)
    have hb3 : Below v.heap.size v (v.alloc (.cells #[.string s, .int .i64 0] 66)) := (Below.refl _ _).alloc (Nat.le_refl _) _
    have hb4 : Below w0.heap.size w0 (v.alloc (.cells #[.string s, .int .i64 0] 66)) := hb2.trans (hb3.mono hb2.size)
    have k := Kp.of_below (X := fun _ => False) hb4
    have g := hp.gB
    refine lo2_all F w.heap.size w.heap.size v.heap.size s pe m md ent nc sho w0 _ Post Q hm hx hQ ⟨⟨⟨fun c hc => k.cell id (hp.T.1 c hc), fun i hi => ⟨k.cell id (hp.T.2 i hi).1, k.cell id (hp.T.2 i hi).2⟩⟩, k.cell id hp.E, by rw [k.tape]; exact hp.F, g.mono hb2.size, hp.hs, alloc_at _ _, hB.below hb3, Nat.le_trans hle hb3.size, g.mono hb.size, Nat.zero_le _, ?_⟩, ⟨by simp [grCells], .inl ⟨rfl, rfl⟩⟩, hb4, hb.size, hb2.size, Nat.zero_le _⟩ hP a hF
    cases ent <;> cases nc <;> cases sho <;> simp [hdr]
  cases nc <;> cases sho <;> cases ent
  · exact head000 s m w Q hx key a hF
  · exact head001 s m w Q hx key a hF
  · exact head010 s m w Q hx key a hF
  · exact head011 s m w Q hx key a hF
  · exact head100 s m w Q hx key a hF
  · exact head101 s m w Q hx key a hF
  · exact head110 s m w Q hx key a hF
  · exact head111 s m w Q hx key a hF

set_option maxRecDepth 1000000 in
set_option maxHeartbeats 4000000 in
theorem regexp_walk (F : Interp) (s : ByteArray) (pe : Addr) (m : Int) (md : Md) (ent nc sho : Bool) (w : World) (hm : Mo m md) (hx : Mx m ent nc sho) (hp : RPre F s pe w) :
    Calls Tryf.prog 22 #[.string s, .int .u64 m] w (RegPost (regexpM md ent nc sho s) s.size w) := by
  have hQ : RetQ2 (bodyPost Tryf.prog Tryf.f22 (RegPost (regexpM md ent nc sho s) s.size w)) (RegPost (regexpM md ent nc sho s) s.size w) := by
    intro a w v u h1 h2 h3 h4
    exact bodyPost_ret (v := .tuple #[v, u]) (by simp [results, Tryf.results22, go_sem, h2, h3]) rfl h4
  have hr2 : ∀ w', Below w.heap.size w w' → (regexpM md ent nc sho s = rOut ent (loopR md s (s.size + 1) 0 (hdr ent nc sho) [])) → ∀ a, QF s m a → Code.wp Tryf.prog rRest (bodyPost Tryf.prog Tryf.f22 (RegPost (regexpM md ent nc sho s) s.size w)) ⟨a, []⟩ w' := fun w' hb he a hF =>
    rest2_all F s pe m md ent nc sho w w' (RegPost (regexpM md ent nc sho s) s.size w) _ hm hx hQ hp hb (by rw [he]; exact fun _ _ h => h) a hF
  have hbody : ∀ a, QF s m a → Code.wp Tryf.prog (sq2 rbd) (bodyPost Tryf.prog Tryf.f22 (RegPost (regexpM md ent nc sho s) s.size w)) ⟨a, []⟩ w := by
    intro a hF
    have e : sq2 rbd = .seq rS1 rRest := rfl
    rw [e]
    refine wp_seq ?_
    cases h12 : (ent || nc) with
    | true => exact s1_no s m ent nc sho w _ _ hx h12 (fun a hF => hr2 w (Below.refl _ _) (by unfold regexpM; rw [h12]; simp) a hF) a hF
    | false =>
      refine s1_yes s m ent nc sho w _ _ hx h12 hp.hs ?_ ?_ a hF
      · intro hs a w' hF' hb
        exact hr2 w' hb (by unfold regexpM; rw [h12, hs]; simp) a hF'
      · intro hs a w' h1 h2 h3 hb
        have e2 : regexpM md ent nc sho s = .ok s.data.toList := by unfold regexpM; rw [h12, hs]; simp
        refine hQ a w' _ _ h1 h2 h3 ⟨hb, ?_⟩
        rw [e2]
  have HB := Lib.hid hbody
  clear hbody hr2 hQ hp hx hm
  go_enter Tryf.func22, Tryf.ntmps22
  refine wp_seq_k fun K hK => ?_
  have HK := Lib.hid hK
  clear hK
  go_wp2_with fail
  refine HK.out _ _ ?_
  refine HB.out _ ?_
  exact ⟨rfl, rfl, rfl⟩
end Go.Proofs.YtonifkkdokaooaaFmt
