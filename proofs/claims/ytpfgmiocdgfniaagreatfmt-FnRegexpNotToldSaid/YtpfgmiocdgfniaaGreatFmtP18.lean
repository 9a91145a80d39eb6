/- Joined by pack.py: RxA, RxB, RxS, RxC, RxD, RxE, RxF, RxG. -/
import Derived.Test.YtpfgmiocdgfniaaGreatFmtP17
import Derived.Lib.OthersKept
import Derived.LoopN
import Derived.LaidEql
import Derived.Stop.Asserts
set_option linter.unusedVariables false
set_option maxHeartbeats 8000000
set_option maxRecDepth 1000000
namespace Go.Proofs.YtpfgmiocdgfniaaGreatFmt
open Go.RowKit Go.Extern.Stop Go.Stop Go.Extern
theorem lit91 (a : Array Value) (h : a.size = 91) : ∃ x : Nat → Value, a = #[x 0, x 1, x 2, x 3, x 4, x 5, x 6, x 7, x 8, x 9, x 10, x 11, x 12, x 13, x 14, x 15, x 16, x 17, x 18, x 19, x 20, x 21, x 22, x 23, x 24, x 25, x 26, x 27, x 28, x 29, x 30, x 31, x 32, x 33, x 34, x 35, x 36, x 37, x 38, x 39, x 40, x 41, x 42, x 43, x 44, x 45, x 46, x 47, x 48, x 49, x 50, x 51, x 52, x 53, x 54, x 55, x 56, x 57, x 58, x 59, x 60, x 61, x 62, x 63, x 64, x 65, x 66, x 67, x 68, x 69, x 70, x 71, x 72, x 73, x 74, x 75, x 76, x 77, x 78, x 79, x 80, x 81, x 82, x 83, x 84, x 85, x 86, x 87, x 88, x 89, x 90] := arr_lst a 91 h
structure QF (s : ByteArray) (m : Int) (a : Array Value) : Prop where
  sz : a.size = 91
  s0 : a[0]? = some (.string s)
  s1 : a[1]? = some (.int .u64 m)
structure SF (s : ByteArray) (m : Int) (it : Nat) (a : Array Value) : Prop where
  sz : a.size = 91
  s0 : a[0]? = some (.string s)
  s1 : a[1]? = some (.int .u64 m)
  s6 : a[6]? = some (.bool false)
  s19 : a[19]? = some (.pointer (some ⟨it, 0, none⟩))
theorem SF.open {s : ByteArray} {m : Int} {it : Nat} {a : Array Value} {C : Array Value → Prop} (h : SF s m it a)
    (hx : ∀ x : Nat → Value, C #[.string s, .int .u64 m, x 2, x 3, x 4, x 5, .bool false, x 7, x 8, x 9, x 10, x 11, x 12, x 13, x 14, x 15, x 16, x 17, x 18, .pointer (some ⟨it, 0, none⟩), x 20, x 21, x 22, x 23, x 24, x 25, x 26, x 27, x 28, x 29, x 30, x 31, x 32, x 33, x 34, x 35, x 36, x 37, x 38, x 39, x 40, x 41, x 42, x 43, x 44, x 45, x 46, x 47, x 48, x 49, x 50, x 51, x 52, x 53, x 54, x 55, x 56, x 57, x 58, x 59, x 60, x 61, x 62, x 63, x 64, x 65, x 66, x 67, x 68, x 69, x 70, x 71, x 72, x 73, x 74, x 75, x 76, x 77, x 78, x 79, x 80, x 81, x 82, x 83, x 84, x 85, x 86, x 87, x 88, x 89, x 90]) : C a := by
  obtain ⟨x, rfl⟩ := lit91 a h.sz
  have h0 : x 0 = _ := Option.some.inj h.s0
  have h1 : x 1 = _ := Option.some.inj h.s1
  have h6 : x 6 = _ := Option.some.inj h.s6
  have h19 : x 19 = _ := Option.some.inj h.s19
  rw [h0, h1, h6, h19]
  exact hx x
theorem QF.open {s : ByteArray} {m : Int} {a : Array Value} {C : Array Value → Prop} (h : QF s m a)
    (hx : ∀ x : Nat → Value, C #[.string s, .int .u64 m, x 2, x 3, x 4, x 5, x 6, x 7, x 8, x 9, x 10, x 11, x 12, x 13, x 14, x 15, x 16, x 17, x 18, x 19, x 20, x 21, x 22, x 23, x 24, x 25, x 26, x 27, x 28, x 29, x 30, x 31, x 32, x 33, x 34, x 35, x 36, x 37, x 38, x 39, x 40, x 41, x 42, x 43, x 44, x 45, x 46, x 47, x 48, x 49, x 50, x 51, x 52, x 53, x 54, x 55, x 56, x 57, x 58, x 59, x 60, x 61, x 62, x 63, x 64, x 65, x 66, x 67, x 68, x 69, x 70, x 71, x 72, x 73, x 74, x 75, x 76, x 77, x 78, x 79, x 80, x 81, x 82, x 83, x 84, x 85, x 86, x 87, x 88, x 89, x 90]) : C a := by
  obtain ⟨x, rfl⟩ := lit91 a h.sz
  have h0 : x 0 = _ := Option.some.inj h.s0
  have h1 : x 1 = _ := Option.some.inj h.s1
  rw [h0, h1]
  exact hx x
def rmeta (r : Nat) : Bool := [42, 63, 91, 92, 46, 43, 40, 41, 124, 93, 123, 125, 94, 36].contains r
def shc (s : ByteArray) : Nat → Nat → Bool
  | 0, _ => false
  | f + 1, i => if i < s.size then rmeta (Utf8.decode s i).1 || shc s f (i + (Utf8.decode s i).2) else false
noncomputable def rbd : Code := Tryz.f15.body.getD .skip
noncomputable def rS1 : Code := sq1 (sq2 rbd)
noncomputable def rRest : Code := sq2 (sq2 rbd)
noncomputable def rX : Code := scC (thC (sq2 rS1))
noncomputable def rLo : Code := sq2 (sq1 (sq2 (sq2 rX)))
noncomputable def rBody : Code := loC (blC rLo)
structure SW (s : ByteArray) (w0 : World) (it pos : Nat) (w : World) : Prop where
  cur : w.heap[it]? = some (.stringIter s pos)
  hb : Below w0.heap.size w0 w
  le : w0.heap.size ≤ it
theorem SW.step {s : ByteArray} {w0 : World} {it pos q : Nat} {w : World} (h : SW s w0 it pos w) : SW s w0 it q (w.iterAt it s q) :=
  ⟨Lib.iterAt_heap w it s pos q h.cur, Lib.below_iterAt h.hb (k := it) h.le s q, h.le⟩
theorem sh_end (s : ByteArray) (m : Int) (it pos : Nat) (w0 w : World) (K : Act → World → Prop) (Q : Exit → Act → World → Prop) (hW : SW s w0 it pos w) (hp : ¬ pos < s.size)
    (hx : ∀ a, SF s m it a → Q (.exit 0) ⟨a, []⟩ w) (a : Array Value) (hF : SF s m it a) : Code.wp Tryz.prog rBody (Exit.then K Q) ⟨a, []⟩ w := by
  refine hF.open (C := fun a => Code.wp Tryz.prog rBody (Exit.then K Q) ⟨a, []⟩ w) fun x => ?_
  clear hF a
  have HX := Lib.hid hx
  have hnx : ∀ ty, (Instr.next (.pointer (some ⟨it, 0, none⟩)) true ty).run Tryz.prog w = _ := fun ty => Lib.run_next_end_at w it s pos ty hW.cur hp
  clear hx hW hp
  conv => arg 2; whnf
  go_wp2
  exact HX.out _ ⟨rfl, rfl, rfl, rfl, rfl⟩
theorem sh_no (s : ByteArray) (m : Int) (it pos : Nat) (w0 w : World) (K : Act → World → Prop) (Q : Exit → Act → World → Prop) (hW : SW s w0 it pos w) (hp : pos < s.size) (hm : rmeta (Utf8.decode s pos).1 = false)
    (hx : ∀ a, SF s m it a → K ⟨a, []⟩ (w.iterAt it s (pos + (Utf8.decode s pos).2))) (a : Array Value) (hF : SF s m it a) : Code.wp Tryz.prog rBody (Exit.then K Q) ⟨a, []⟩ w := by
  refine hF.open (C := fun a => Code.wp Tryz.prog rBody (Exit.then K Q) ⟨a, []⟩ w) fun x => ?_
  clear hF a
  have HX := Lib.hid hx
  have hnx : ∀ ty, (Instr.next (.pointer (some ⟨it, 0, none⟩)) true ty).run Tryz.prog w = _ := fun ty => Lib.run_next_any_at w it s pos ty hW.cur hp
  generalize w.iterAt it s (pos + (Utf8.decode s pos).2) = W at *
  generalize (Utf8.decode s pos).1 = r at *
  have h14 : r ≠ 42 ∧ r ≠ 63 ∧ r ≠ 91 ∧ r ≠ 92 ∧ r ≠ 46 ∧ r ≠ 43 ∧ r ≠ 40 ∧ r ≠ 41 ∧ r ≠ 124 ∧ r ≠ 93 ∧ r ≠ 123 ∧ r ≠ 125 ∧ r ≠ 94 ∧ r ≠ 36 := by simpa [rmeta, and_assoc] using hm
  have b42 : ((r : Int) == 42) = false := by rw [beq_eq_false_iff_ne]; omega
  have b63 : ((r : Int) == 63) = false := by rw [beq_eq_false_iff_ne]; omega
  have b91 : ((r : Int) == 91) = false := by rw [beq_eq_false_iff_ne]; omega
  have b92 : ((r : Int) == 92) = false := by rw [beq_eq_false_iff_ne]; omega
  have b46 : ((r : Int) == 46) = false := by rw [beq_eq_false_iff_ne]; omega
  have b43 : ((r : Int) == 43) = false := by rw [beq_eq_false_iff_ne]; omega
  have b40 : ((r : Int) == 40) = false := by rw [beq_eq_false_iff_ne]; omega
  have b41 : ((r : Int) == 41) = false := by rw [beq_eq_false_iff_ne]; omega
  have b124 : ((r : Int) == 124) = false := by rw [beq_eq_false_iff_ne]; omega
  have b93 : ((r : Int) == 93) = false := by rw [beq_eq_false_iff_ne]; omega
  have b123 : ((r : Int) == 123) = false := by rw [beq_eq_false_iff_ne]; omega
  have b125 : ((r : Int) == 125) = false := by rw [beq_eq_false_iff_ne]; omega
  have b94 : ((r : Int) == 94) = false := by rw [beq_eq_false_iff_ne]; omega
  have b36 : ((r : Int) == 36) = false := by rw [beq_eq_false_iff_ne]; omega
  clear hx hW hp hm h14
  conv => arg 2; whnf
  go_wp2
  exact HX.out _ ⟨rfl, rfl, rfl, rfl, rfl⟩
theorem sh_yes (s : ByteArray) (m : Int) (it pos : Nat) (w0 w : World) (K : Act → World → Prop) (Q : Exit → Act → World → Prop) (hW : SW s w0 it pos w) (hp : pos < s.size) (hm : rmeta (Utf8.decode s pos).1 = true)
    (hx : ∀ a, QF s m a → a[6]? = some (.bool true) → Q (.exit 0) ⟨a, []⟩ (w.iterAt it s (pos + (Utf8.decode s pos).2))) (a : Array Value) (hF : SF s m it a) : Code.wp Tryz.prog rBody (Exit.then K Q) ⟨a, []⟩ w := by
  refine hF.open (C := fun a => Code.wp Tryz.prog rBody (Exit.then K Q) ⟨a, []⟩ w) fun x => ?_
  clear hF a
  have HX := Lib.hid hx
  have hnx : ∀ ty, (Instr.next (.pointer (some ⟨it, 0, none⟩)) true ty).run Tryz.prog w = _ := fun ty => Lib.run_next_any_at w it s pos ty hW.cur hp
  generalize w.iterAt it s (pos + (Utf8.decode s pos).2) = W at *
  generalize (Utf8.decode s pos).1 = r at *
  have h14 : r = 42 ∨ r = 63 ∨ r = 91 ∨ r = 92 ∨ r = 46 ∨ r = 43 ∨ r = 40 ∨ r = 41 ∨ r = 124 ∨ r = 93 ∨ r = 123 ∨ r = 125 ∨ r = 94 ∨ r = 36 := by simpa [rmeta, or_assoc] using hm
  clear hx hW hp hm
  rcases h14 with rfl | rfl | rfl | rfl | rfl | rfl | rfl | rfl | rfl | rfl | rfl | rfl | rfl | rfl
  all_goals
    conv => arg 2; whnf
    go_wp2
    exact HX.out _ ⟨rfl, rfl, rfl⟩ rfl
end Go.Proofs.YtpfgmiocdgfniaaGreatFmt

namespace Go.Proofs.YtpfgmiocdgfniaaGreatFmt
open Go.RowKit Go.Extern.Stop Go.Stop Go.Extern
theorem rLo_eq : rLo = .block 0 (.loop rBody) := rfl
theorem sh_rounds (s : ByteArray) (m : Int) (it : Nat) (w0 : World) (Q : Exit → Act → World → Prop) (R : Bool)
    (hxT : ∀ a w', QF s m a → a[6]? = some (.bool true) → Below w0.heap.size w0 w' → R = true → Q (.exit 0) ⟨a, []⟩ w')
    (hxF : ∀ a w', SF s m it a → Below w0.heap.size w0 w' → R = false → Q (.exit 0) ⟨a, []⟩ w') :
    ∀ (f pos : Nat) (w : World) (a : Array Value), SF s m it a → SW s w0 it pos w → pos ≤ s.size → s.size < f + pos → shc s f pos = R → Code.rounds Tryz.prog rBody Q f ⟨a, []⟩ w := by
  intro f
  induction f with
  | zero => intro pos w a hF hW hp hf; omega
  | succ f ih =>
    intro pos w a hF hW hp hf hR
    rw [rounds_succ]
    unfold shc at hR
    by_cases hlt : pos < s.size
    · rw [if_pos hlt] at hR
      have hd := dec_bounds s pos
      cases hm : rmeta (Utf8.decode s pos).1 with
      | true =>
        rw [hm, Bool.true_or] at hR
        exact sh_yes s m it pos w0 w _ Q hW hlt hm (fun a hF' h6 => hxT a _ hF' h6 (hW.step (q := pos + (Utf8.decode s pos).2)).hb hR.symm) a hF
      | false =>
        rw [hm, Bool.false_or] at hR
        exact sh_no s m it pos w0 w _ Q hW hlt hm (fun a hF' => ih _ _ a hF' hW.step (hd.2.2.2 hlt) (by omega) hR) a hF
    · rw [if_neg hlt] at hR
      exact sh_end s m it pos w0 w _ Q hW hlt (fun a hF' => hxF a w hF' hW.hb hR.symm) a hF
structure Mx (m : Int) (ent nc sho : Bool) : Prop where
  z12 : (bits BinOp.and IntKind.u64 m 12 == 0) = !(ent || nc)
  n8 : (bits BinOp.and IntKind.u64 m 8 != 0) = nc
  n1 : (bits BinOp.and IntKind.u64 m 1 != 0) = sho
  n4 : (bits BinOp.and IntKind.u64 m 4 != 0) = ent
theorem s1_no (s : ByteArray) (m : Int) (ent nc sho : Bool) (w : World) (K : Act → World → Prop) (Q : Exit → Act → World → Prop) (hm : Mx m ent nc sho) (h12 : (ent || nc) = true)
    (hK : ∀ a, QF s m a → K ⟨a, []⟩ w) (a : Array Value) (hF : QF s m a) : Code.wp Tryz.prog rS1 (Exit.then K Q) ⟨a, []⟩ w := by
  refine hF.open (C := fun a => Code.wp Tryz.prog rS1 (Exit.then K Q) ⟨a, []⟩ w) fun x => ?_
  clear hF a
  have HK := Lib.hid hK
  have hz := hm.z12
  rw [h12] at hz
  clear hK hm h12
  conv => arg 2; whnf
  go_wp2
  exact HK.out _ ⟨rfl, rfl, rfl⟩
noncomputable def rAft : Code := sq2 (sq2 (sq2 rX))
theorem sh_aft (s : ByteArray) (m : Int) (b : Bool) (w : World) (Q : Exit → Act → World → Prop) (hT : b = true → ∀ a, QF s m a → Q .normal ⟨a, []⟩ w) (hR : b = false → ∀ a : Array Value, a.size = 91 → a[4]? = some (.string s) → a[5]? = some .nilIface → Q .ret ⟨a, []⟩ w) (a : Array Value) (hF : QF s m a) (h6 : a[6]? = some (.bool b)) :
    Code.wp Tryz.prog rAft Q ⟨a, []⟩ w := by
  obtain ⟨x, rfl⟩ := lit91 a hF.sz
  have h0 : x 0 = _ := Option.some.inj hF.s0
  have h1 : x 1 = _ := Option.some.inj hF.s1
  have h6' : x 6 = _ := Option.some.inj h6
  rw [h0, h1, h6']
  clear hF h6 h0 h1 h6'
  have HT := Lib.hid hT
  have HR := Lib.hid hR
  clear hT hR
  cases b with
  | true =>
    conv => arg 2; whnf
    go_wp2
    exact HT.out trivial _ ⟨rfl, rfl, rfl⟩
  | false =>
    conv => arg 2; whnf
    go_wp2
    exact HR.out trivial _ rfl rfl rfl
theorem s1_yes (s : ByteArray) (m : Int) (ent nc sho : Bool) (w : World) (K : Act → World → Prop) (Q : Exit → Act → World → Prop) (hm : Mx m ent nc sho) (h12 : (ent || nc) = false) (hs : s.size ≤ 4398046511104)
    (hK : shc s (s.size + 1) 0 = true → ∀ a w', QF s m a → Below w.heap.size w w' → K ⟨a, []⟩ w')
    (hR : shc s (s.size + 1) 0 = false → ∀ (a : Array Value) w', a.size = 91 → a[4]? = some (.string s) → a[5]? = some .nilIface → Below w.heap.size w w' → Q .ret ⟨a, []⟩ w') (a : Array Value) (hF : QF s m a) : Code.wp Tryz.prog rS1 (Exit.then K Q) ⟨a, []⟩ w := by
  refine hF.open (C := fun a => Code.wp Tryz.prog rS1 (Exit.then K Q) ⟨a, []⟩ w) fun x => ?_
  clear hF a
  have HK := Lib.hid hK
  have HR := Lib.hid hR
  have hz := hm.z12
  rw [h12] at hz
  clear hK hm h12 hR
  conv => arg 2; whnf
  go_wp2
  go_step3
  go_wp2
  rename_i K1 hK1 
  refine wp_label (hK1 _ _ ?_)
  clear hK1 K1
  refine wp_seq_k fun K2 hK2 => ?_
  have HK2 := Lib.hid hK2
  clear hK2
  go_wp2
  refine wp_loop_rounds (s.size + 1) ?_
  refine sh_rounds s m w.heap.size w _ (shc s (s.size + 1) 0) ?_ ?_ (s.size + 1) 0 _ _ ?_ ⟨?_, (Below.refl _ w).alloc (Nat.le_refl _) _, Nat.le_refl _⟩ (Nat.zero_le _) (by omega) rfl
  · intro a w' hF h6 hb hR
    refine HK2.out _ _ ?_
    exact sh_aft s m true w' (Exit.noGoto (Exit.then K Q)) (fun _ a hF => HK.out hR a w' hF hb) (fun h => by cases h) a hF h6
  · intro a w' hF hb hR
    refine HK2.out _ _ ?_
    exact sh_aft s m false w' (Exit.noGoto (Exit.then K Q)) (fun h => by cases h) (fun _ a h1 h2 h3 => HR.out hR a w' h1 h2 h3 hb) a ⟨hF.sz, hF.s0, hF.s1⟩ hF.s6
  · exact ⟨rfl, rfl, rfl, rfl, rfl⟩
  · have := World.iter_heap w s 0
    simpa using this
end Go.Proofs.YtpfgmiocdgfniaaGreatFmt

namespace Go.Proofs.YtpfgmiocdgfniaaGreatFmt
open Go.RowKit Go.Extern.Stop Go.Stop Go.Extern
abbrev tG : TypeId := 60
def grCells (gs : List (Nat × Nat)) : List Value := gs.flatMap fun p => [.int .i64 (p.1 : Int), .int .i64 (p.2 : Int)]
theorem grCells_snoc (gs : List (Nat × Nat)) (p : Nat × Nat) : grCells (gs ++ [p]) = grCells gs ++ [.int .i64 (p.1 : Int), .int .i64 (p.2 : Int)] := by simp [grCells]
inductive RR where
  | syn
  | done (acc : List UInt8) (gs : List (Nat × Nat))
def loopR (md : Md) (s : ByteArray) : Nat → Nat → List UInt8 → List (Nat × Nat) → RR
  | 0, _, acc, gs => .done acc gs
  | f + 1, i, acc, gs =>
    if (next md s (s.size + 1) i).err = 1 then .done acc gs
    else if (next md s (s.size + 1) i).err = 0 then loopR md s f (next md s (s.size + 1) i).i (acc ++ (next md s (s.size + 1) i).out) gs
    else if (next md s (s.size + 1) i).err = 2 then loopR md s f (next md s (s.size + 1) i).i (acc ++ (next md s (s.size + 1) i).out) (gs ++ [((next md s (s.size + 1) i).st, (next md s (s.size + 1) i).i)])
    else .syn
abbrev eofV (pe : Addr) : Value := .iface 154 (.pointer (some pe))
structure TW (F : Interp) (B b ls : Nat) (s : ByteArray) (pe : Addr) (w0 : World) (i : Nat) (acc : List UInt8) (gv : Value) (gs : List (Nat × Nat)) (w : World) : Prop where
  pre : Pre F B b ls s (eofV pe) i acc w
  own : w.ownsRow B tG 2 gv gs.length (grCells gs)
  hb : Below w0.heap.size w0 w
  le : w0.heap.size ≤ B
  lels : w0.heap.size ≤ ls
  gl : gs.length ≤ i
theorem own_kept {ls B b : Nat} {s : ByteArray} {i : Nat} {bs : List Value} {w w' : World} {v : Value} {n : Nat} {xs : List Value} (h : w.ownsRow B tG 2 v n xs) (hL : Lx ls s i w) (hB : IsB B b bs w) (k : Kp (XX ls B b w) w w') : w'.ownsRow B tG 2 v n xs := by
  refine ⟨h.1, ?_⟩
  rcases h.2 with hn | ⟨g, cap, cur, rfl, hb, hgg, rest⟩
  · exact .inl hn
  · refine .inr ⟨g, cap, cur, rfl, hb, k.heap ?_ hgg, rest⟩
    obtain ⟨_, _, c, hbb⟩ := hB.block
    rintro (e | e | ⟨_, hr⟩)
    · exact heap_ne hgg hL (by decide) e
    · exact heap_ne hgg hbb (by decide) e
    · exact not_row hgg (by decide) hr
theorem TW.call {F : Interp} {B b ls : Nat} {s : ByteArray} {pe : Addr} {w0 : World} {i j : Nat} {acc acc' : List UInt8} {gv : Value} {gs : List (Nat × Nat)} {w w' : World} (h : TW F B b ls s pe w0 i acc gv gs w)
    (hL : Lx ls s j w') (hB : IsB B b (Lib.byteCells acc') w') (k : Kp (XX ls B b w) w w') (hj : j ≤ s.size) (hij : i ≤ j) (hl : acc'.length ≤ 16 * j + 64) : TW F B b ls s pe w0 j acc' gv gs w' := by
  have hp := h.pre
  have hbb := hp.Bd.block
  have hlow : ∀ x, x < B → x ≠ ls → ¬ XX ls B b w x := fun x hx hne hy => by rcases hy with e | e | ⟨h1, _⟩ <;> omega
  have g1 := hp.gl; have g2 := hp.gB
  refine ⟨⟨⟨fun c hc => k.cell (hlow gU g2.2.1 (Nat.ne_of_lt g1.2.1)) (hp.T.1 c hc), fun i hi => ⟨k.cell (hlow gA g2.2.2 (Nat.ne_of_lt g1.2.2)) (hp.T.2 i hi).1, k.cell (hlow gA g2.2.2 (Nat.ne_of_lt g1.2.2)) (hp.T.2 i hi).2⟩⟩,
    k.cell (hlow gE g2.1 (Nat.ne_of_lt g1.1)) hp.E, by rw [k.tape]; exact hp.F, hp.gl, hp.hs, hL, hB, Nat.le_trans hp.sz k.size, hp.gB, hj, hl⟩, own_kept h.own hp.L hp.Bd k, ?_, h.le, h.lels, by have := h.gl; omega⟩
  refine h.hb.trans ?_
  refine k.below h.hb.size ?_
  intro x hx hy
  have h1 := h.le; have h2 := h.lels
  rcases hy with e | e | ⟨h3, _⟩ <;> omega
theorem TW.grown {F : Interp} {B b ls : Nat} {s : ByteArray} {pe : Addr} {w0 : World} {i : Nat} {acc : List UInt8} {gv v' : Value} {gs : List (Nat × Nat)} {p : Nat × Nat} {w w' : World} (h : TW F B b ls s pe w0 i acc gv gs w)
    (ho : w'.ownsRow B tG 2 v' (gs ++ [p]).length (grCells (gs ++ [p]))) (hg : w.grownBy w' gv.ownBlock) (hl : gs.length + 1 ≤ i) : TW F B b ls s pe w0 i acc v' (gs ++ [p]) w' := by
  have hp := h.pre
  have k : Kp (fun x => gv.ownBlock = some x) w w' := ⟨hg.os, hg.tape, hg.output, hg.size, fun x hx hne => hg.block x hx (fun e => hne e.symm)⟩
  have hrow : ∀ x, gv.ownBlock = some x → B ≤ x ∧ ∃ c, w.heap[x]? = some (.cells c tG (0, 0)) := by
    intro x hx
    rcases h.own.2 with ⟨rfl, _⟩ | ⟨g, cap, cur, rfl, hb, hgg, _⟩
    · cases hx
    · cases hx; exact ⟨hb, _, hgg⟩
  have hlow : ∀ x, x < B → ¬ gv.ownBlock = some x := fun x hx e => by have := (hrow x e).1; omega
  have hnb : ¬ gv.ownBlock = some b := fun e => by
    obtain ⟨_, c, hc⟩ := hrow b e
    obtain ⟨_, _, c2, hb2⟩ := hp.Bd.block
    exact heap_ne hc hb2 (by decide) rfl
  have hnl : ¬ gv.ownBlock = some ls := fun e => by
    obtain ⟨_, c, hc⟩ := hrow ls e
    exact heap_ne hc hp.L (by decide) rfl
  have g2 := hp.gB
  refine ⟨⟨⟨fun c hc => k.cell (hlow gU g2.2.1) (hp.T.1 c hc), fun i hi => ⟨k.cell (hlow gA g2.2.2) (hp.T.2 i hi).1, k.cell (hlow gA g2.2.2) (hp.T.2 i hi).2⟩⟩,
    k.cell (hlow gE g2.1) hp.E, by rw [k.tape]; exact hp.F, hp.gl, hp.hs, hp.L.kept k hnl, hp.Bd.kept k hnb (fun g _ hr e => ?_), Nat.le_trans hp.sz k.size, hp.gB, hp.hi, hp.len⟩, ho, ?_, h.le, h.lels, by rw [List.length_append]; exact hl⟩
  · obtain ⟨_, c, hc⟩ := hrow g e
    exact not_row hc (by decide) hr
  · exact h.hb.trans (k.below h.hb.size (fun x hx => hlow x (by have := h.le; omega)))
end Go.Proofs.YtpfgmiocdgfniaaGreatFmt

namespace Go.Proofs.YtpfgmiocdgfniaaGreatFmt
open Go.RowKit Go.Extern.Stop Go.Stop Go.Extern
theorem infoEof : (Tryz.prog.info? 154).map (·.comparable) = some true := by kernel_rfl
theorem infoEs : (Tryz.prog.info? 156).map (·.size) = some 1 := by kernel_rfl
@[go_sem] theorem eqEof (pe : Addr) (w : World) : (binOp .eql 49 (.iface 154 (.pointer (some pe))) (.iface 154 (.pointer (some pe)))).run Tryz.prog w = .ok (.bool true) w := by
  obtain ⟨i, hi, hc⟩ := Option.map_eq_some_iff.1 infoEof
  obtain ⟨j, hj, _⟩ := Option.map_eq_some_iff.1 infoEs
  exact run_eql_iface_ptr_same w pe Tryz.underlying49 Tryz.underlying154 hi hc hj
@[go_sem] theorem eqEofNil (v : Value) (w : World) : (binOp .eql 49 .nilIface (.iface 154 v)).run Tryz.prog w = .ok (.bool false) w := run_eql_iface_nil_left w _ v Tryz.underlying49
@[go_sem] theorem eqEofNeg (u v : Value) (w : World) : (binOp .eql 49 (.iface 53 u) (.iface 154 v)).run Tryz.prog w = .ok (.bool false) w := run_eql_iface_types _ _ u v Tryz.underlying49 (by decide) w
@[go_sem] theorem eqEofSyn (u v : Value) (w : World) : (binOp .eql 49 (.iface 106 u) (.iface 154 v)).run Tryz.prog w = .ok (.bool false) w := run_eql_iface_types _ _ u v Tryz.underlying49 (by decide) w
@[go_sem] theorem taNeg (u : Value) (w : World) : (Instr.typeAssert (.iface 53 u) 49 53 true).run Tryz.prog w = .ok (.tuple #[u, .bool true]) w := by kernel_rfl
@[go_sem] theorem taSyn (u : Value) (w : World) : (Instr.typeAssert (.iface 106 u) 49 53 true).run Tryz.prog w = .ok (.tuple #[.pointer none, .bool false]) w := by kernel_rfl
structure TF (s : ByteArray) (m : Int) (b ls : Nat) (gv : Value) (a : Array Value) : Prop where
  sz : a.size = 91
  s0 : a[0]? = some (.string s)
  s1 : a[1]? = some (.int .u64 m)
  s9 : a[9]? = some (.pointer (some ⟨b, 0, none⟩))
  s10 : a[10]? = some (.pointer (some ⟨ls, 0, none⟩))
  s11 : a[11]? = some gv
theorem TF.open {s : ByteArray} {m : Int} {b ls : Nat} {gv : Value} {a : Array Value} {C : Array Value → Prop} (h : TF s m b ls gv a)
    (hx : ∀ x : Nat → Value, C #[.string s, .int .u64 m, x 2, x 3, x 4, x 5, x 6, x 7, x 8, .pointer (some ⟨b, 0, none⟩), .pointer (some ⟨ls, 0, none⟩), gv, x 12, x 13, x 14, x 15, x 16, x 17, x 18, x 19, x 20, x 21, x 22, x 23, x 24, x 25, x 26, x 27, x 28, x 29, x 30, x 31, x 32, x 33, x 34, x 35, x 36, x 37, x 38, x 39, x 40, x 41, x 42, x 43, x 44, x 45, x 46, x 47, x 48, x 49, x 50, x 51, x 52, x 53, x 54, x 55, x 56, x 57, x 58, x 59, x 60, x 61, x 62, x 63, x 64, x 65, x 66, x 67, x 68, x 69, x 70, x 71, x 72, x 73, x 74, x 75, x 76, x 77, x 78, x 79, x 80, x 81, x 82, x 83, x 84, x 85, x 86, x 87, x 88, x 89, x 90]) : C a := by
  obtain ⟨x, rfl⟩ := lit91 a h.sz
  have h0 : x 0 = _ := Option.some.inj h.s0
  have h1 : x 1 = _ := Option.some.inj h.s1
  have h9 : x 9 = _ := Option.some.inj h.s9
  have h10 : x 10 = _ := Option.some.inj h.s10
  have h11 : x 11 = _ := Option.some.inj h.s11
  rw [h0, h1, h9, h10, h11]
  exact hx x
noncomputable def rLo2 : Code := sq2 (sq2 (sq2 (sq2 (sq2 (sq2 (sq2 (sq2 rRest)))))))
noncomputable def tBody : Code := loC (blC (sq1 rLo2))
noncomputable def rFin : Code := sq2 rLo2
theorem t_eof (F : Interp) (B b ls : Nat) (s : ByteArray) (pe : Addr) (m : Int) (md : Md) (w0 w : World) (i : Nat) (acc : List UInt8) (gv : Value) (gs : List (Nat × Nat)) (K : Act → World → Prop) (Q : Exit → Act → World → Prop) (hm : Mo m md) (hT : TW F B b ls s pe w0 i acc gv gs w) (he : (next md s (s.size + 1) i).err = 1)
    (hx : ∀ a w' i', TF s m b ls gv a → TW F B b ls s pe w0 i' acc gv gs w' → Q (.exit 3) ⟨a, []⟩ w') (a : Array Value) (hF : TF s m b ls gv a) : Code.wp Tryz.prog tBody (Exit.then K Q) ⟨a, []⟩ w := by
  refine hF.open (C := fun a => Code.wp Tryz.prog tBody (Exit.then K Q) ⟨a, []⟩ w) fun x => ?_
  clear hF a
  have HX := Lib.hid hx
  have HT := Lib.hid hT
  have hE := hT.pre.E
  have hle := hT.pre.hi
  have hl := hT.pre.len
  have hgl := hT.gl
  have HN := Lib.hid (next_walk F ls s (eofV pe) m md hm (s.size + 1) B b i acc w hT.pre (by omega))
  have HG := Lib.hid (next_good md s (s.size + 1) i hT.pre.hi (by omega))
  have HE := Lib.hid he
  clear hx hT hm he
  generalize hr : next md s (s.size + 1) i = r at *
  clear hr
  conv => arg 2; whnf
  go_wp2_with fail
  refine HN.out.mono ?_
  rintro e w1 ⟨hL, hB, hk, v, rfl, hv⟩
  obtain rfl := hv.2.1 HE.out
  have hz : (nx s i).1 = 0 := Classical.byContradiction fun h => (HG.out.2 h).1 HE.out
  obtain rfl := HG.out.1 hz
  obtain ⟨hj0, hj1, hj2⟩ := nx_le s i hle
  rw [List.append_nil] at hB
  have hT1 := HT.out.call hL hB hk hj1 hj0 (by dsimp only; omega)
  have hE1 := hT1.pre.E
  have HT1 := Lib.hid hT1
  clear hL hB hk hv hT1 HT HN HG HE hE hz
  go_wp2_with fail
  exact HX.out _ _ _ ⟨rfl, rfl, rfl, rfl, rfl, rfl⟩ HT1.out
theorem t_ok (F : Interp) (B b ls : Nat) (s : ByteArray) (pe : Addr) (m : Int) (md : Md) (w0 w : World) (i : Nat) (acc : List UInt8) (gv : Value) (gs : List (Nat × Nat)) (K : Act → World → Prop) (Q : Exit → Act → World → Prop) (hm : Mo m md) (hT : TW F B b ls s pe w0 i acc gv gs w) (he : (next md s (s.size + 1) i).err = 0)
    (hx : ∀ a w', TF s m b ls gv a → TW F B b ls s pe w0 (next md s (s.size + 1) i).i (acc ++ (next md s (s.size + 1) i).out) gv gs w' → K ⟨a, []⟩ w') (a : Array Value) (hF : TF s m b ls gv a) : Code.wp Tryz.prog tBody (Exit.then K Q) ⟨a, []⟩ w := by
  refine hF.open (C := fun a => Code.wp Tryz.prog tBody (Exit.then K Q) ⟨a, []⟩ w) fun x => ?_
  clear hF a
  have HX := Lib.hid hx
  have HT := Lib.hid hT
  have hE := hT.pre.E
  have hle := hT.pre.hi
  have hl := hT.pre.len
  have hgl := hT.gl
  have HN := Lib.hid (next_walk F ls s (eofV pe) m md hm (s.size + 1) B b i acc w hT.pre (by omega))
  have HG := Lib.hid (next_good md s (s.size + 1) i hT.pre.hi (by omega))
  have HE := Lib.hid he
  clear hx hT hm he
  generalize hr : next md s (s.size + 1) i = r at *
  clear hr
  conv => arg 2; whnf
  go_wp2_with fail
  refine HN.out.mono ?_
  rintro e w1 ⟨hL, hB, hk, v, rfl, hv⟩
  obtain rfl := hv.1 HE.out
  have hz : (nx s i).1 ≠ 0 := fun h => by have := HG.out.1 h; rw [this] at HE; cases HE.out
  obtain ⟨hj0, hj1, hj2⟩ := (HG.out.2 hz).2 (by rw [HE.out]; omega)
  have hT1 := HT.out.call hL hB hk hj1 (by omega) (by rw [List.length_append]; omega)
  have hE1 := hT1.pre.E
  have HT1 := Lib.hid hT1
  clear hL hB hk hv hT1 HT HN HG HE hE hz
  go_wp2_with fail
  exact HX.out _ _ ⟨rfl, rfl, rfl, rfl, rfl, rfl⟩ HT1.out
theorem t_syn (F : Interp) (B b ls : Nat) (s : ByteArray) (pe : Addr) (m : Int) (md : Md) (w0 w : World) (i : Nat) (acc : List UInt8) (gv : Value) (gs : List (Nat × Nat)) (K : Act → World → Prop) (Q : Exit → Act → World → Prop) (hm : Mo m md) (hT : TW F B b ls s pe w0 i acc gv gs w) (he : (next md s (s.size + 1) i).err = 3)
    (hx : ∀ (a : Array Value) w' v, a.size = 91 → a[4]? = some (.string ⟨#[]⟩) → a[5]? = some v → SynErr w' v → Below w0.heap.size w0 w' → Q .ret ⟨a, []⟩ w') (a : Array Value) (hF : TF s m b ls gv a) : Code.wp Tryz.prog tBody (Exit.then K Q) ⟨a, []⟩ w := by
  refine hF.open (C := fun a => Code.wp Tryz.prog tBody (Exit.then K Q) ⟨a, []⟩ w) fun x => ?_
  clear hF a
  have HX := Lib.hid hx
  have HT := Lib.hid hT
  have hE := hT.pre.E
  have hle := hT.pre.hi
  have hl := hT.pre.len
  have hgl := hT.gl
  have HN := Lib.hid (next_walk F ls s (eofV pe) m md hm (s.size + 1) B b i acc w hT.pre (by omega))
  have HG := Lib.hid (next_good md s (s.size + 1) i hT.pre.hi (by omega))
  have HE := Lib.hid he
  clear hx hT hm he
  generalize hr : next md s (s.size + 1) i = r at *
  clear hr
  conv => arg 2; whnf
  go_wp2_with fail
  refine HN.out.mono ?_
  rintro e w1 ⟨hL, hB, hk, v, rfl, hv⟩
  have hsy := hv.2.2.2 HE.out
  have HSY := Lib.hid hsy
  obtain ⟨p, mm, u, rfl, hp, hu⟩ := hsy
  have hbel : Below w0.heap.size w0 w1 := HT.out.hb.trans (hk.below HT.out.hb.size (fun x hx hy => by
    have h1 := HT.out.le; have h2 := HT.out.lels; have h3 := HT.out.pre.Bd.block.1
    rcases hy with e | e | ⟨h4, _⟩ <;> omega))
  have hE1 : w1.cell? ⟨gE, 0, none⟩ = some (eofV pe) := hk.cell (fun hy => by
    have h1 := HT.out.pre.gB.1; have h2 := HT.out.pre.gl.1; have h3 := HT.out.pre.Bd.block.1
    rcases hy with e | e | ⟨h4, _⟩ <;> omega) hE
  have HBL := Lib.hid hbel
  clear hL hB hk hv HT HN HG HE hE hp hu hbel
  go_wp2_with fail
  exact HX.out _ _ _ rfl rfl rfl HSY.out HBL.out
end Go.Proofs.YtpfgmiocdgfniaaGreatFmt

namespace Go.Proofs.YtpfgmiocdgfniaaGreatFmt
open Go.RowKit Go.Extern.Stop Go.Stop Go.Extern
theorem infoG : (Tryz.prog.info? 60).map (fun i => (i.zero, i.size, i.bytes)) = some (some (.agg #[.int .i64 0, .int .i64 0]), 2, 16) := by kernel_rfl
theorem t_neg (F : Interp) (B b ls : Nat) (s : ByteArray) (pe : Addr) (m : Int) (md : Md) (w0 w : World) (i : Nat) (acc : List UInt8) (gv : Value) (gs : List (Nat × Nat)) (K : Act → World → Prop) (Q : Exit → Act → World → Prop) (hm : Mo m md) (hT : TW F B b ls s pe w0 i acc gv gs w) (he : (next md s (s.size + 1) i).err = 2)
    (hx : ∀ a w' gv', TF s m b ls gv' a → TW F B b ls s pe w0 (next md s (s.size + 1) i).i (acc ++ (next md s (s.size + 1) i).out) gv' (gs ++ [((next md s (s.size + 1) i).st, (next md s (s.size + 1) i).i)]) w' → K ⟨a, []⟩ w') (a : Array Value) (hF : TF s m b ls gv a) : Code.wp Tryz.prog tBody (Exit.then K Q) ⟨a, []⟩ w := by
  refine hF.open (C := fun a => Code.wp Tryz.prog tBody (Exit.then K Q) ⟨a, []⟩ w) fun x => ?_
  clear hF a
  have HX := Lib.hid hx
  have HT := Lib.hid hT
  have hE := hT.pre.E
  have hle := hT.pre.hi
  have hl := hT.pre.len
  have hgl := hT.gl
  have HN := Lib.hid (next_walk F ls s (eofV pe) m md hm (s.size + 1) B b i acc w hT.pre (by omega))
  have HG := Lib.hid (next_good md s (s.size + 1) i hT.pre.hi (by omega))
  have HE := Lib.hid he
  clear hx hT hm he
  generalize hr : next md s (s.size + 1) i = r at *
  clear hr
  conv => arg 2; whnf
  go_wp2_with fail
  refine HN.out.mono ?_
  rintro e w1 ⟨hL, hB, hk, v, rfl, hv⟩
  obtain ⟨p, q, rfl, hp, hq⟩ := hv.2.2.1 HE.out
  have hz : (nx s i).1 ≠ 0 := fun h => by have := HG.out.1 h; rw [this] at HE; cases HE.out
  obtain ⟨hj0, hj1, hj2⟩ := (HG.out.2 hz).2 (by rw [HE.out]; omega)
  have hT1 := HT.out.call hL hB hk hj1 (by omega) (by rw [List.length_append]; omega)
  have hE1 := hT1.pre.E
  have hs42 := hT1.pre.hs
  have hown := hT1.own
  have hBs := hT1.pre.sz
  have cp : w1.cell? ⟨p, 0, none⟩ = some (.slice (some ⟨q, 0, none⟩) 1 1) := by rw [Lib.cell_of_heap hp]; rfl
  have cq0 : w1.cell? ⟨q, 0, none⟩ = some (.int .i64 (r.st : Int)) := by rw [Lib.cell_of_heap hq]; rfl
  have cq1 : w1.cell? ⟨q, 1, none⟩ = some (.int .i64 (r.i : Int)) := by rw [Lib.cell_of_heap hq]; rfl
  have HT1 := Lib.hid hT1
  obtain ⟨i0, hi0, hz0, hz1, hz2⟩ := info_parts infoG
  have HI := Lib.hid hi0
  clear hL hB hk hv hT1 HT HN HG HE hE hz hp hq
  go_wp2_with (at_builtin; refine wpList_append_own _ rfl _ _ 56 rfl B tG i0 (.agg #[.int .i64 0, .int .i64 0]) 2 16 Tryz.underlying56 hi0 hz0 hz1 hz2 rfl (by decide) _ _ _ rfl hown ⟨q, 0, none⟩ 1 1 [.int .i64 (r.st : Int), .int .i64 (r.i : Int)] rfl rfl ?c1 ?c2 ?c3 ?c4 ?c5 ?_)
  case c1 =>
    intro j u hu
    match j, hu with
    | 0, hu => simp at hu; subst hu; exact cq0
    | 1, hu => simp at hu; subst hu; exact cq1
  case c2 => simp [Value.oneCell']
  case c3 => unfold maxLen; omega
  case c4 => omega
  case c5 => exact hBs
  intro v' w2 hown' hgrow hnn
  have HT2 := Lib.hid (HT1.out.grown (p := (r.st, r.i)) (by rw [grCells_snoc, List.length_append]; exact hown') hgrow (by omega))
  clear hown' hgrow hnn HT1 hown cp cq0 cq1 hE1 hBs
  go_wp2_with fail
  exact HX.out _ _ _ ⟨rfl, rfl, rfl, rfl, rfl, rfl⟩ HT2.out
end Go.Proofs.YtpfgmiocdgfniaaGreatFmt

namespace Go.Proofs.YtpfgmiocdgfniaaGreatFmt
open Go.RowKit Go.Extern.Stop Go.Stop Go.Extern
theorem rLo2_eq : rLo2 = .seq (.block 3 (.loop tBody)) rFin := rfl
theorem t_rounds (F : Interp) (B b ls : Nat) (s : ByteArray) (pe : Addr) (m : Int) (md : Md) (w0 : World) (Q : Exit → Act → World → Prop) (R : RR) (hm : Mo m md)
    (hxd : ∀ acc gs gv i' a w', TF s m b ls gv a → TW F B b ls s pe w0 i' acc gv gs w' → R = .done acc gs → Q (.exit 3) ⟨a, []⟩ w')
    (hxs : ∀ (a : Array Value) w' v, a.size = 91 → a[4]? = some (.string ⟨#[]⟩) → a[5]? = some v → SynErr w' v → Below w0.heap.size w0 w' → R = .syn → Q .ret ⟨a, []⟩ w') :
    ∀ (f i : Nat) (acc : List UInt8) (gv : Value) (gs : List (Nat × Nat)) (w : World) (a : Array Value), TF s m b ls gv a → TW F B b ls s pe w0 i acc gv gs w → s.size < f + i → loopR md s f i acc gs = R → Code.rounds Tryz.prog tBody Q f ⟨a, []⟩ w := by
  intro f
  induction f with
  | zero => intro i acc gv gs w a hF hT hf; have := hT.pre.hi; omega
  | succ f ih =>
    intro i acc gv gs w a hF hT hf hR
    rw [rounds_succ]
    unfold loopR at hR
    have hg := next_good md s (s.size + 1) i hT.pre.hi (by omega)
    have h3 := next_err md s (s.size + 1) i
    by_cases h1 : (next md s (s.size + 1) i).err = 1
    · rw [if_pos h1] at hR
      exact t_eof F B b ls s pe m md w0 w i acc gv gs _ Q hm hT h1 (fun a w' i' hF' hT' => hxd acc gs gv i' a w' hF' hT' hR.symm) a hF
    rw [if_neg h1] at hR
    have hz : (nx s i).1 ≠ 0 := fun h => by rw [hg.1 h] at h1; exact h1 rfl
    by_cases h0 : (next md s (s.size + 1) i).err = 0
    · rw [if_pos h0] at hR
      have := (hg.2 hz).2 (by omega)
      exact t_ok F B b ls s pe m md w0 w i acc gv gs _ Q hm hT h0 (fun a w' hF' hT' => ih _ _ gv gs w' a hF' hT' (by omega) hR) a hF
    rw [if_neg h0] at hR
    by_cases h2 : (next md s (s.size + 1) i).err = 2
    · rw [if_pos h2] at hR
      have := (hg.2 hz).2 (by omega)
      exact t_neg F B b ls s pe m md w0 w i acc gv gs _ Q hm hT h2 (fun a w' gv' hF' hT' => ih _ _ gv' _ w' a hF' hT' (by omega) hR) a hF
    · rw [if_neg h2] at hR
      exact t_syn F B b ls s pe m md w0 w i acc gv gs _ Q hm hT (by omega) (fun a w' v h4 h5 h6 h7 h8 => hxs a w' v h4 h5 h6 h7 h8 hR.symm) a hF
theorem fin_neg (F : Interp) (B b ls : Nat) (s : ByteArray) (pe : Addr) (m : Int) (ent nc sho : Bool) (w0 w : World) (i : Nat) (acc : List UInt8) (gv : Value) (gs : List (Nat × Nat)) (Q : Exit → Act → World → Prop) (hm : Mx m ent nc sho) (hT : TW F B b ls s pe w0 i acc gv gs w) (hne : gs ≠ []) (hx : ∀ (a : Array Value) w' p, a.size = 91 → a[4]? = some (.string ⟨#[]⟩) → a[5]? = some (.iface 53 (.pointer (some ⟨p, 0, none⟩))) → w'.heap[p]? = some (.cells #[gv] 58 (0, 0)) → w'.ownsRow B tG 2 gv gs.length (grCells gs) → Below w0.heap.size w0 w' → Q .ret ⟨a, []⟩ w') (a : Array Value) (hF : TF s m b ls gv a) : Code.wp Tryz.prog rFin Q ⟨a, []⟩ w := by
  refine hF.open (C := fun a => Code.wp Tryz.prog rFin Q ⟨a, []⟩ w) fun x => ?_
  clear hF a
  have HX := Lib.hid hx
  have HT := Lib.hid hT
  have h4 := hm.n4
  have hle := hT.pre.hi
  have hs42 := hT.pre.hs
  have hl := hT.pre.len
  have hsz := hT.pre.sz
  have hgn := hT.own
  have hgv : ∃ ao cap, gv = .slice ao gs.length cap := by
    rcases hT.own.2 with ⟨hv, h0⟩ | ⟨g, cap, cur, hv, _⟩
    · exact ⟨none, 0, by rw [hv, h0]⟩
    · exact ⟨_, _, hv⟩
  obtain ⟨ao, cap, rfl⟩ := hgv
  have HO := Lib.hid hgn
  clear hgn
  have hpos : (0 : Int) < (gs.length : Int) := by have := List.length_pos_iff.2 hne; omega
  have HB0 := Lib.hid hT.hb
  clear hx hT hm hne
  conv => arg 2; whnf
  go_wp2_with fail
  refine HX.out _ _ _ rfl rfl rfl (alloc_at _ _) (HO.out.alloc _) (HB0.out.trans ((Below.refl _ _).alloc HB0.out.size _))
theorem fin_ok0 (F : Interp) (B b ls : Nat) (s : ByteArray) (pe : Addr) (m : Int) (ent nc sho : Bool) (w0 w : World) (i : Nat) (acc : List UInt8) (gv : Value) (gs : List (Nat × Nat)) (Q : Exit → Act → World → Prop) (hm : Mx m ent nc sho) (hT : TW F B b ls s pe w0 i acc gv gs w) (hgs : gs = []) (hen : ent = false) (hx : ∀ (a : Array Value) w', a.size = 91 → a[4]? = some (.string ⟨(acc).toArray⟩) → a[5]? = some .nilIface → Below w0.heap.size w0 w' → Q .ret ⟨a, []⟩ w') (a : Array Value) (hF : TF s m b ls gv a) : Code.wp Tryz.prog rFin Q ⟨a, []⟩ w := by
  refine hF.open (C := fun a => Code.wp Tryz.prog rFin Q ⟨a, []⟩ w) fun x => ?_
  clear hF a
  have HX := Lib.hid hx
  have HT := Lib.hid hT
  have h4 := hm.n4
  have hle := hT.pre.hi
  have hs42 := hT.pre.hs
  have hl := hT.pre.len
  have hsz := hT.pre.sz
  have hgn := hT.own
  have hgv : ∃ ao cap, gv = .slice ao gs.length cap := by
    rcases hT.own.2 with ⟨hv, h0⟩ | ⟨g, cap, cur, hv, _⟩
    · exact ⟨none, 0, by rw [hv, h0]⟩
    · exact ⟨_, _, hv⟩
  obtain ⟨ao, cap, rfl⟩ := hgv
  have HO := Lib.hid hgn
  clear hgn
  subst hgs
  rw [hen] at h4
  have HB0 := Lib.hid hT.hb
  have hBd := hT.pre.Bd
  clear hx hT hm hen
  conv => arg 2; whnf
  go_wp2_with fail
  refine (Tryz.Builder_String_any_k B b (acc) w hBd hsz).mono ?_
  rintro e w2 ⟨rfl, hB2, hq2, ho2⟩
  have HBL := Lib.hid (HB0.out.trans (hq2.mono HT.out.le))
  clear hB2 hq2 ho2
  go_wp2_with fail
  exact HX.out _ _ rfl rfl rfl HBL.out
theorem fin_ok1 (F : Interp) (B b ls : Nat) (s : ByteArray) (pe : Addr) (m : Int) (ent nc sho : Bool) (w0 w : World) (i : Nat) (acc : List UInt8) (gv : Value) (gs : List (Nat × Nat)) (Q : Exit → Act → World → Prop) (hm : Mx m ent nc sho) (hT : TW F B b ls s pe w0 i acc gv gs w) (hgs : gs = []) (hen : ent = true) (hx : ∀ (a : Array Value) w', a.size = 91 → a[4]? = some (.string ⟨(acc ++ [36]).toArray⟩) → a[5]? = some .nilIface → Below w0.heap.size w0 w' → Q .ret ⟨a, []⟩ w') (a : Array Value) (hF : TF s m b ls gv a) : Code.wp Tryz.prog rFin Q ⟨a, []⟩ w := by
  refine hF.open (C := fun a => Code.wp Tryz.prog rFin Q ⟨a, []⟩ w) fun x => ?_
  clear hF a
  have HX := Lib.hid hx
  have HT := Lib.hid hT
  have h4 := hm.n4
  have hle := hT.pre.hi
  have hs42 := hT.pre.hs
  have hl := hT.pre.len
  have hsz := hT.pre.sz
  have hgn := hT.own
  have hgv : ∃ ao cap, gv = .slice ao gs.length cap := by
    rcases hT.own.2 with ⟨hv, h0⟩ | ⟨g, cap, cur, hv, _⟩
    · exact ⟨none, 0, by rw [hv, h0]⟩
    · exact ⟨_, _, hv⟩
  obtain ⟨ao, cap, rfl⟩ := hgv
  have HO := Lib.hid hgn
  clear hgn
  subst hgs
  rw [hen] at h4
  have HB0' := Lib.hid hT.hb
  have hBd := hT.pre.Bd
  have HW := Lib.hid (writeString_any B b (Lib.byteCells acc) ⟨#[36]⟩ w hBd (by simp [Lib.byteCells, ByteArray.size]; omega) hsz)
  clear hx hT hm hen hBd
  conv => arg 2; whnf
  go_wp2_with fail
  refine HW.out.mono ?_
  rintro e w1 ⟨rfl, hB1, hf1⟩
  have hBd1 : IsB B b (Lib.byteCells (acc ++ [36])) w1 := by
    have e : Lib.byteCells (acc ++ [36]) = Lib.byteCells acc ++ Lib.byteCells [36] := by simp [Lib.byteCells]
    rw [e]; exact hB1
  have HB0 := Lib.hid (HB0'.out.trans (hf1.1.mono HT.out.le))
  have hsz1 : B ≤ w1.heap.size := Nat.le_trans hsz hf1.1.size
  have HBD1 := Lib.hid hBd1
  clear hB1 hf1 HW HB0' hBd1
  go_wp2_with fail
  refine (Tryz.Builder_String_any_k B b (acc ++ [36]) w1 HBD1.out hsz1).mono ?_
  rintro e w2 ⟨rfl, hB2, hq2, ho2⟩
  have HBL := Lib.hid (HB0.out.trans (hq2.mono HT.out.le))
  clear hB2 hq2 ho2
  go_wp2_with fail
  exact HX.out _ _ rfl rfl rfl HBL.out
end Go.Proofs.YtpfgmiocdgfniaaGreatFmt

namespace Go.Proofs.YtpfgmiocdgfniaaGreatFmt
open Go.RowKit Go.Extern.Stop Go.Stop Go.Extern
def hdr (ent nc sho : Bool) : List UInt8 := [40, 63, 115] ++ (if nc then [105] else []) ++ (if sho then [85] else []) ++ [41] ++ (if ent then [94] else [])
theorem head000 (s : ByteArray) (m : Int) (w1 : World) (Q : Exit → Act → World → Prop) (hm : Mx m false false false)
    (hx : ∀ a v, IsB w1.heap.size w1.heap.size (Lib.byteCells (hdr false false false)) v → w1.heap.size ≤ v.heap.size → Below w1.heap.size w1 v → w1.heap.size ≤ v.heap.size → TF s m w1.heap.size v.heap.size (.slice none 0 0) a → Code.wp Tryz.prog rLo2 Q ⟨a, []⟩ (v.alloc (.cells #[.string s, .int .i64 0] 80)))
    (a : Array Value) (hF : QF s m a) : Code.wp Tryz.prog rRest Q ⟨a, []⟩ w1 := by
  refine hF.open (C := fun a => Code.wp Tryz.prog rRest Q ⟨a, []⟩ w1) fun x => ?_
  clear hF a
  have HX := Lib.hid (fun a v h1 h2 h3 (h4 : True) h5 => hx a v h1 h2 h3 h2 h5)
  have h8 := hm.n8
  have h1 := hm.n1
  have h4 := hm.n4
  have HI0 : Hid (IsB w1.heap.size w1.heap.size (Lib.byteCells []) (w1.alloc (.cells #[.pointer none, .slice none 0 0] 76)) ∧ w1.heap.size ≤ (w1.alloc (.cells #[.pointer none, .slice none 0 0] 76)).heap.size) :=
    Lib.hid ⟨Lib.IsBuilderF.of (Lib.fresh_isBuilder 76 5 w1), by simp⟩
  have HLz := Lib.hid ((Below.refl w1.heap.size w1).alloc (Nat.le_refl _) (.cells #[.pointer none, .slice none 0 0] 76))
  clear hx hm
  conv => arg 2; whnf
  have HW0 := Lib.hid (writeString_any w1.heap.size w1.heap.size (Lib.byteCells []) ⟨#[40, 63, 115]⟩ _ HI0.out.1 (by simp [Lib.byteCells, ByteArray.size]) HI0.out.2)
  go_wp2_with fail
  refine HW0.out.mono ?_
  rintro e v0 ⟨rfl, hB0, hf0⟩
  have HI1 : Hid (IsB w1.heap.size w1.heap.size (Lib.byteCells ([] ++ [40, 63, 115])) v0 ∧ w1.heap.size ≤ v0.heap.size) := Lib.hid ⟨by have e : Lib.byteCells ([] ++ [40, 63, 115]) = Lib.byteCells [] ++ Lib.byteCells [40, 63, 115] := (by simp [Lib.byteCells]); rw [e]; exact hB0, Nat.le_trans HI0.out.2 hf0.1.size⟩
  have HL0 := Lib.hid (HLz.out.trans hf0.1)
  clear hB0 hf0 HW0 HI0
  have HI1 : Hid (IsB w1.heap.size w1.heap.size (Lib.byteCells [40, 63, 115]) v0 ∧ w1.heap.size ≤ v0.heap.size) := Lib.hid HI1.out
  have HW1 := Lib.hid (writeString_any w1.heap.size w1.heap.size (Lib.byteCells [40, 63, 115]) ⟨#[41]⟩ _ HI1.out.1 (by simp [Lib.byteCells, ByteArray.size]) HI1.out.2)
  go_wp2_with fail
  refine HW1.out.mono ?_
  rintro e v1 ⟨rfl, hB1, hf1⟩
  have HI2 : Hid (IsB w1.heap.size w1.heap.size (Lib.byteCells ([40, 63, 115] ++ [41])) v1 ∧ w1.heap.size ≤ v1.heap.size) := Lib.hid ⟨by have e : Lib.byteCells ([40, 63, 115] ++ [41]) = Lib.byteCells [40, 63, 115] ++ Lib.byteCells [41] := (by simp [Lib.byteCells]); rw [e]; exact hB1, Nat.le_trans HI1.out.2 hf1.1.size⟩
  have HL1 := Lib.hid (HL0.out.trans hf1.1)
  clear hB1 hf1 HW1 HI1
  have HI2 : Hid (IsB w1.heap.size w1.heap.size (Lib.byteCells [40, 63, 115, 41]) v1 ∧ w1.heap.size ≤ v1.heap.size) := Lib.hid HI2.out
  go_upto_region 34 with fail
  rename_i K hK
  have HKK := Lib.hid hK
  clear hK
  go_wp2_with fail
  refine HKK.out _ _ ?_
  refine HX.out _ v1 HI2.out.1 HI2.out.2 HL1.out trivial ?_
  exact ⟨rfl, rfl, rfl, rfl, rfl, rfl⟩
theorem head001 (s : ByteArray) (m : Int) (w1 : World) (Q : Exit → Act → World → Prop) (hm : Mx m true false false)
    (hx : ∀ a v, IsB w1.heap.size w1.heap.size (Lib.byteCells (hdr true false false)) v → w1.heap.size ≤ v.heap.size → Below w1.heap.size w1 v → w1.heap.size ≤ v.heap.size → TF s m w1.heap.size v.heap.size (.slice none 0 0) a → Code.wp Tryz.prog rLo2 Q ⟨a, []⟩ (v.alloc (.cells #[.string s, .int .i64 0] 80)))
    (a : Array Value) (hF : QF s m a) : Code.wp Tryz.prog rRest Q ⟨a, []⟩ w1 := by
  refine hF.open (C := fun a => Code.wp Tryz.prog rRest Q ⟨a, []⟩ w1) fun x => ?_
  clear hF a
  have HX := Lib.hid (fun a v h1 h2 h3 (h4 : True) h5 => hx a v h1 h2 h3 h2 h5)
  have h8 := hm.n8
  have h1 := hm.n1
  have h4 := hm.n4
  have HI0 : Hid (IsB w1.heap.size w1.heap.size (Lib.byteCells []) (w1.alloc (.cells #[.pointer none, .slice none 0 0] 76)) ∧ w1.heap.size ≤ (w1.alloc (.cells #[.pointer none, .slice none 0 0] 76)).heap.size) :=
    Lib.hid ⟨Lib.IsBuilderF.of (Lib.fresh_isBuilder 76 5 w1), by simp⟩
  have HLz := Lib.hid ((Below.refl w1.heap.size w1).alloc (Nat.le_refl _) (.cells #[.pointer none, .slice none 0 0] 76))
  clear hx hm
  conv => arg 2; whnf
  have HW0 := Lib.hid (writeString_any w1.heap.size w1.heap.size (Lib.byteCells []) ⟨#[40, 63, 115]⟩ _ HI0.out.1 (by simp [Lib.byteCells, ByteArray.size]) HI0.out.2)
  go_wp2_with fail
  refine HW0.out.mono ?_
  rintro e v0 ⟨rfl, hB0, hf0⟩
  have HI1 : Hid (IsB w1.heap.size w1.heap.size (Lib.byteCells ([] ++ [40, 63, 115])) v0 ∧ w1.heap.size ≤ v0.heap.size) := Lib.hid ⟨by have e : Lib.byteCells ([] ++ [40, 63, 115]) = Lib.byteCells [] ++ Lib.byteCells [40, 63, 115] := (by simp [Lib.byteCells]); rw [e]; exact hB0, Nat.le_trans HI0.out.2 hf0.1.size⟩
  have HL0 := Lib.hid (HLz.out.trans hf0.1)
  clear hB0 hf0 HW0 HI0
  have HI1 : Hid (IsB w1.heap.size w1.heap.size (Lib.byteCells [40, 63, 115]) v0 ∧ w1.heap.size ≤ v0.heap.size) := Lib.hid HI1.out
  have HW1 := Lib.hid (writeString_any w1.heap.size w1.heap.size (Lib.byteCells [40, 63, 115]) ⟨#[41]⟩ _ HI1.out.1 (by simp [Lib.byteCells, ByteArray.size]) HI1.out.2)
  go_wp2_with fail
  refine HW1.out.mono ?_
  rintro e v1 ⟨rfl, hB1, hf1⟩
  have HI2 : Hid (IsB w1.heap.size w1.heap.size (Lib.byteCells ([40, 63, 115] ++ [41])) v1 ∧ w1.heap.size ≤ v1.heap.size) := Lib.hid ⟨by have e : Lib.byteCells ([40, 63, 115] ++ [41]) = Lib.byteCells [40, 63, 115] ++ Lib.byteCells [41] := (by simp [Lib.byteCells]); rw [e]; exact hB1, Nat.le_trans HI1.out.2 hf1.1.size⟩
  have HL1 := Lib.hid (HL0.out.trans hf1.1)
  clear hB1 hf1 HW1 HI1
  have HI2 : Hid (IsB w1.heap.size w1.heap.size (Lib.byteCells [40, 63, 115, 41]) v1 ∧ w1.heap.size ≤ v1.heap.size) := Lib.hid HI2.out
  have HW2 := Lib.hid (writeString_any w1.heap.size w1.heap.size (Lib.byteCells [40, 63, 115, 41]) ⟨#[94]⟩ _ HI2.out.1 (by simp [Lib.byteCells, ByteArray.size]) HI2.out.2)
  go_wp2_with fail
  refine HW2.out.mono ?_
  rintro e v2 ⟨rfl, hB2, hf2⟩
  have HI3 : Hid (IsB w1.heap.size w1.heap.size (Lib.byteCells ([40, 63, 115, 41] ++ [94])) v2 ∧ w1.heap.size ≤ v2.heap.size) := Lib.hid ⟨by have e : Lib.byteCells ([40, 63, 115, 41] ++ [94]) = Lib.byteCells [40, 63, 115, 41] ++ Lib.byteCells [94] := (by simp [Lib.byteCells]); rw [e]; exact hB2, Nat.le_trans HI2.out.2 hf2.1.size⟩
  have HL2 := Lib.hid (HL1.out.trans hf2.1)
  clear hB2 hf2 HW2 HI2
  have HI3 : Hid (IsB w1.heap.size w1.heap.size (Lib.byteCells [40, 63, 115, 41, 94]) v2 ∧ w1.heap.size ≤ v2.heap.size) := Lib.hid HI3.out
  go_upto_region 34 with fail
  rename_i K hK
  have HKK := Lib.hid hK
  clear hK
  go_wp2_with fail
  refine HKK.out _ _ ?_
  refine HX.out _ v2 HI3.out.1 HI3.out.2 HL2.out trivial ?_
  exact ⟨rfl, rfl, rfl, rfl, rfl, rfl⟩
theorem head010 (s : ByteArray) (m : Int) (w1 : World) (Q : Exit → Act → World → Prop) (hm : Mx m false false true)
    (hx : ∀ a v, IsB w1.heap.size w1.heap.size (Lib.byteCells (hdr false false true)) v → w1.heap.size ≤ v.heap.size → Below w1.heap.size w1 v → w1.heap.size ≤ v.heap.size → TF s m w1.heap.size v.heap.size (.slice none 0 0) a → Code.wp Tryz.prog rLo2 Q ⟨a, []⟩ (v.alloc (.cells #[.string s, .int .i64 0] 80)))
    (a : Array Value) (hF : QF s m a) : Code.wp Tryz.prog rRest Q ⟨a, []⟩ w1 := by
  refine hF.open (C := fun a => Code.wp Tryz.prog rRest Q ⟨a, []⟩ w1) fun x => ?_
  clear hF a
  have HX := Lib.hid (fun a v h1 h2 h3 (h4 : True) h5 => hx a v h1 h2 h3 h2 h5)
  have h8 := hm.n8
  have h1 := hm.n1
  have h4 := hm.n4
  have HI0 : Hid (IsB w1.heap.size w1.heap.size (Lib.byteCells []) (w1.alloc (.cells #[.pointer none, .slice none 0 0] 76)) ∧ w1.heap.size ≤ (w1.alloc (.cells #[.pointer none, .slice none 0 0] 76)).heap.size) :=
    Lib.hid ⟨Lib.IsBuilderF.of (Lib.fresh_isBuilder 76 5 w1), by simp⟩
  have HLz := Lib.hid ((Below.refl w1.heap.size w1).alloc (Nat.le_refl _) (.cells #[.pointer none, .slice none 0 0] 76))
  clear hx hm
  conv => arg 2; whnf
  have HW0 := Lib.hid (writeString_any w1.heap.size w1.heap.size (Lib.byteCells []) ⟨#[40, 63, 115]⟩ _ HI0.out.1 (by simp [Lib.byteCells, ByteArray.size]) HI0.out.2)
  go_wp2_with fail
  refine HW0.out.mono ?_
  rintro e v0 ⟨rfl, hB0, hf0⟩
  have HI1 : Hid (IsB w1.heap.size w1.heap.size (Lib.byteCells ([] ++ [40, 63, 115])) v0 ∧ w1.heap.size ≤ v0.heap.size) := Lib.hid ⟨by have e : Lib.byteCells ([] ++ [40, 63, 115]) = Lib.byteCells [] ++ Lib.byteCells [40, 63, 115] := (by simp [Lib.byteCells]); rw [e]; exact hB0, Nat.le_trans HI0.out.2 hf0.1.size⟩
  have HL0 := Lib.hid (HLz.out.trans hf0.1)
  clear hB0 hf0 HW0 HI0
  have HI1 : Hid (IsB w1.heap.size w1.heap.size (Lib.byteCells [40, 63, 115]) v0 ∧ w1.heap.size ≤ v0.heap.size) := Lib.hid HI1.out
  have HW1 := Lib.hid (writeString_any w1.heap.size w1.heap.size (Lib.byteCells [40, 63, 115]) ⟨#[85]⟩ _ HI1.out.1 (by simp [Lib.byteCells, ByteArray.size]) HI1.out.2)
  go_wp2_with fail
  refine HW1.out.mono ?_
  rintro e v1 ⟨rfl, hB1, hf1⟩
  have HI2 : Hid (IsB w1.heap.size w1.heap.size (Lib.byteCells ([40, 63, 115] ++ [85])) v1 ∧ w1.heap.size ≤ v1.heap.size) := Lib.hid ⟨by have e : Lib.byteCells ([40, 63, 115] ++ [85]) = Lib.byteCells [40, 63, 115] ++ Lib.byteCells [85] := (by simp [Lib.byteCells]); rw [e]; exact hB1, Nat.le_trans HI1.out.2 hf1.1.size⟩
  have HL1 := Lib.hid (HL0.out.trans hf1.1)
  clear hB1 hf1 HW1 HI1
  have HI2 : Hid (IsB w1.heap.size w1.heap.size (Lib.byteCells [40, 63, 115, 85]) v1 ∧ w1.heap.size ≤ v1.heap.size) := Lib.hid HI2.out
  have HW2 := Lib.hid (writeString_any w1.heap.size w1.heap.size (Lib.byteCells [40, 63, 115, 85]) ⟨#[41]⟩ _ HI2.out.1 (by simp [Lib.byteCells, ByteArray.size]) HI2.out.2)
  go_wp2_with fail
  refine HW2.out.mono ?_
  rintro e v2 ⟨rfl, hB2, hf2⟩
  have HI3 : Hid (IsB w1.heap.size w1.heap.size (Lib.byteCells ([40, 63, 115, 85] ++ [41])) v2 ∧ w1.heap.size ≤ v2.heap.size) := Lib.hid ⟨by have e : Lib.byteCells ([40, 63, 115, 85] ++ [41]) = Lib.byteCells [40, 63, 115, 85] ++ Lib.byteCells [41] := (by simp [Lib.byteCells]); rw [e]; exact hB2, Nat.le_trans HI2.out.2 hf2.1.size⟩
  have HL2 := Lib.hid (HL1.out.trans hf2.1)
  clear hB2 hf2 HW2 HI2
  have HI3 : Hid (IsB w1.heap.size w1.heap.size (Lib.byteCells [40, 63, 115, 85, 41]) v2 ∧ w1.heap.size ≤ v2.heap.size) := Lib.hid HI3.out
  go_upto_region 34 with fail
  rename_i K hK
  have HKK := Lib.hid hK
  clear hK
  go_wp2_with fail
  refine HKK.out _ _ ?_
  refine HX.out _ v2 HI3.out.1 HI3.out.2 HL2.out trivial ?_
  exact ⟨rfl, rfl, rfl, rfl, rfl, rfl⟩
theorem head011 (s : ByteArray) (m : Int) (w1 : World) (Q : Exit → Act → World → Prop) (hm : Mx m true false true)
    (hx : ∀ a v, IsB w1.heap.size w1.heap.size (Lib.byteCells (hdr true false true)) v → w1.heap.size ≤ v.heap.size → Below w1.heap.size w1 v → w1.heap.size ≤ v.heap.size → TF s m w1.heap.size v.heap.size (.slice none 0 0) a → Code.wp Tryz.prog rLo2 Q ⟨a, []⟩ (v.alloc (.cells #[.string s, .int .i64 0] 80)))
    (a : Array Value) (hF : QF s m a) : Code.wp Tryz.prog rRest Q ⟨a, []⟩ w1 := by
  refine hF.open (C := fun a => Code.wp Tryz.prog rRest Q ⟨a, []⟩ w1) fun x => ?_
  clear hF a
  have HX := Lib.hid (fun a v h1 h2 h3 (h4 : True) h5 => hx a v h1 h2 h3 h2 h5)
  have h8 := hm.n8
  have h1 := hm.n1
  have h4 := hm.n4
  have HI0 : Hid (IsB w1.heap.size w1.heap.size (Lib.byteCells []) (w1.alloc (.cells #[.pointer none, .slice none 0 0] 76)) ∧ w1.heap.size ≤ (w1.alloc (.cells #[.pointer none, .slice none 0 0] 76)).heap.size) :=
    Lib.hid ⟨Lib.IsBuilderF.of (Lib.fresh_isBuilder 76 5 w1), by simp⟩
  have HLz := Lib.hid ((Below.refl w1.heap.size w1).alloc (Nat.le_refl _) (.cells #[.pointer none, .slice none 0 0] 76))
  clear hx hm
  conv => arg 2; whnf
  have HW0 := Lib.hid (writeString_any w1.heap.size w1.heap.size (Lib.byteCells []) ⟨#[40, 63, 115]⟩ _ HI0.out.1 (by simp [Lib.byteCells, ByteArray.size]) HI0.out.2)
  go_wp2_with fail
  refine HW0.out.mono ?_
  rintro e v0 ⟨rfl, hB0, hf0⟩
  have HI1 : Hid (IsB w1.heap.size w1.heap.size (Lib.byteCells ([] ++ [40, 63, 115])) v0 ∧ w1.heap.size ≤ v0.heap.size) := Lib.hid ⟨by have e : Lib.byteCells ([] ++ [40, 63, 115]) = Lib.byteCells [] ++ Lib.byteCells [40, 63, 115] := (by simp [Lib.byteCells]); rw [e]; exact hB0, Nat.le_trans HI0.out.2 hf0.1.size⟩
  have HL0 := Lib.hid (HLz.out.trans hf0.1)
  clear hB0 hf0 HW0 HI0
  have HI1 : Hid (IsB w1.heap.size w1.heap.size (Lib.byteCells [40, 63, 115]) v0 ∧ w1.heap.size ≤ v0.heap.size) := Lib.hid HI1.out
  have HW1 := Lib.hid (writeString_any w1.heap.size w1.heap.size (Lib.byteCells [40, 63, 115]) ⟨#[85]⟩ _ HI1.out.1 (by simp [Lib.byteCells, ByteArray.size]) HI1.out.2)
  go_wp2_with fail
  refine HW1.out.mono ?_
  rintro e v1 ⟨rfl, hB1, hf1⟩
  have HI2 : Hid (IsB w1.heap.size w1.heap.size (Lib.byteCells ([40, 63, 115] ++ [85])) v1 ∧ w1.heap.size ≤ v1.heap.size) := Lib.hid ⟨by have e : Lib.byteCells ([40, 63, 115] ++ [85]) = Lib.byteCells [40, 63, 115] ++ Lib.byteCells [85] := (by simp [Lib.byteCells]); rw [e]; exact hB1, Nat.le_trans HI1.out.2 hf1.1.size⟩
  have HL1 := Lib.hid (HL0.out.trans hf1.1)
  clear hB1 hf1 HW1 HI1
  have HI2 : Hid (IsB w1.heap.size w1.heap.size (Lib.byteCells [40, 63, 115, 85]) v1 ∧ w1.heap.size ≤ v1.heap.size) := Lib.hid HI2.out
  have HW2 := Lib.hid (writeString_any w1.heap.size w1.heap.size (Lib.byteCells [40, 63, 115, 85]) ⟨#[41]⟩ _ HI2.out.1 (by simp [Lib.byteCells, ByteArray.size]) HI2.out.2)
  go_wp2_with fail
  refine HW2.out.mono ?_
  rintro e v2 ⟨rfl, hB2, hf2⟩
  have HI3 : Hid (IsB w1.heap.size w1.heap.size (Lib.byteCells ([40, 63, 115, 85] ++ [41])) v2 ∧ w1.heap.size ≤ v2.heap.size) := Lib.hid ⟨by have e : Lib.byteCells ([40, 63, 115, 85] ++ [41]) = Lib.byteCells [40, 63, 115, 85] ++ Lib.byteCells [41] := (by simp [Lib.byteCells]); rw [e]; exact hB2, Nat.le_trans HI2.out.2 hf2.1.size⟩
  have HL2 := Lib.hid (HL1.out.trans hf2.1)
  clear hB2 hf2 HW2 HI2
  have HI3 : Hid (IsB w1.heap.size w1.heap.size (Lib.byteCells [40, 63, 115, 85, 41]) v2 ∧ w1.heap.size ≤ v2.heap.size) := Lib.hid HI3.out
  have HW3 := Lib.hid (writeString_any w1.heap.size w1.heap.size (Lib.byteCells [40, 63, 115, 85, 41]) ⟨#[94]⟩ _ HI3.out.1 (by simp [Lib.byteCells, ByteArray.size]) HI3.out.2)
  go_wp2_with fail
  refine HW3.out.mono ?_
  rintro e v3 ⟨rfl, hB3, hf3⟩
  have HI4 : Hid (IsB w1.heap.size w1.heap.size (Lib.byteCells ([40, 63, 115, 85, 41] ++ [94])) v3 ∧ w1.heap.size ≤ v3.heap.size) := Lib.hid ⟨by have e : Lib.byteCells ([40, 63, 115, 85, 41] ++ [94]) = Lib.byteCells [40, 63, 115, 85, 41] ++ Lib.byteCells [94] := (by simp [Lib.byteCells]); rw [e]; exact hB3, Nat.le_trans HI3.out.2 hf3.1.size⟩
  have HL3 := Lib.hid (HL2.out.trans hf3.1)
  clear hB3 hf3 HW3 HI3
  have HI4 : Hid (IsB w1.heap.size w1.heap.size (Lib.byteCells [40, 63, 115, 85, 41, 94]) v3 ∧ w1.heap.size ≤ v3.heap.size) := Lib.hid HI4.out
  go_upto_region 34 with fail
  rename_i K hK
  have HKK := Lib.hid hK
  clear hK
  go_wp2_with fail
  refine HKK.out _ _ ?_
  refine HX.out _ v3 HI4.out.1 HI4.out.2 HL3.out trivial ?_
  exact ⟨rfl, rfl, rfl, rfl, rfl, rfl⟩
theorem head100 (s : ByteArray) (m : Int) (w1 : World) (Q : Exit → Act → World → Prop) (hm : Mx m false true false)
    (hx : ∀ a v, IsB w1.heap.size w1.heap.size (Lib.byteCells (hdr false true false)) v → w1.heap.size ≤ v.heap.size → Below w1.heap.size w1 v → w1.heap.size ≤ v.heap.size → TF s m w1.heap.size v.heap.size (.slice none 0 0) a → Code.wp Tryz.prog rLo2 Q ⟨a, []⟩ (v.alloc (.cells #[.string s, .int .i64 0] 80)))
    (a : Array Value) (hF : QF s m a) : Code.wp Tryz.prog rRest Q ⟨a, []⟩ w1 := by
  refine hF.open (C := fun a => Code.wp Tryz.prog rRest Q ⟨a, []⟩ w1) fun x => ?_
  clear hF a
  have HX := Lib.hid (fun a v h1 h2 h3 (h4 : True) h5 => hx a v h1 h2 h3 h2 h5)
  have h8 := hm.n8
  have h1 := hm.n1
  have h4 := hm.n4
  have HI0 : Hid (IsB w1.heap.size w1.heap.size (Lib.byteCells []) (w1.alloc (.cells #[.pointer none, .slice none 0 0] 76)) ∧ w1.heap.size ≤ (w1.alloc (.cells #[.pointer none, .slice none 0 0] 76)).heap.size) :=
    Lib.hid ⟨Lib.IsBuilderF.of (Lib.fresh_isBuilder 76 5 w1), by simp⟩
  have HLz := Lib.hid ((Below.refl w1.heap.size w1).alloc (Nat.le_refl _) (.cells #[.pointer none, .slice none 0 0] 76))
  clear hx hm
  conv => arg 2; whnf
  have HW0 := Lib.hid (writeString_any w1.heap.size w1.heap.size (Lib.byteCells []) ⟨#[40, 63, 115]⟩ _ HI0.out.1 (by simp [Lib.byteCells, ByteArray.size]) HI0.out.2)
  go_wp2_with fail
  refine HW0.out.mono ?_
  rintro e v0 ⟨rfl, hB0, hf0⟩
  have HI1 : Hid (IsB w1.heap.size w1.heap.size (Lib.byteCells ([] ++ [40, 63, 115])) v0 ∧ w1.heap.size ≤ v0.heap.size) := Lib.hid ⟨by have e : Lib.byteCells ([] ++ [40, 63, 115]) = Lib.byteCells [] ++ Lib.byteCells [40, 63, 115] := (by simp [Lib.byteCells]); rw [e]; exact hB0, Nat.le_trans HI0.out.2 hf0.1.size⟩
  have HL0 := Lib.hid (HLz.out.trans hf0.1)
  clear hB0 hf0 HW0 HI0
  have HI1 : Hid (IsB w1.heap.size w1.heap.size (Lib.byteCells [40, 63, 115]) v0 ∧ w1.heap.size ≤ v0.heap.size) := Lib.hid HI1.out
  have HW1 := Lib.hid (writeString_any w1.heap.size w1.heap.size (Lib.byteCells [40, 63, 115]) ⟨#[105]⟩ _ HI1.out.1 (by simp [Lib.byteCells, ByteArray.size]) HI1.out.2)
  go_wp2_with fail
  refine HW1.out.mono ?_
  rintro e v1 ⟨rfl, hB1, hf1⟩
  have HI2 : Hid (IsB w1.heap.size w1.heap.size (Lib.byteCells ([40, 63, 115] ++ [105])) v1 ∧ w1.heap.size ≤ v1.heap.size) := Lib.hid ⟨by have e : Lib.byteCells ([40, 63, 115] ++ [105]) = Lib.byteCells [40, 63, 115] ++ Lib.byteCells [105] := (by simp [Lib.byteCells]); rw [e]; exact hB1, Nat.le_trans HI1.out.2 hf1.1.size⟩
  have HL1 := Lib.hid (HL0.out.trans hf1.1)
  clear hB1 hf1 HW1 HI1
  have HI2 : Hid (IsB w1.heap.size w1.heap.size (Lib.byteCells [40, 63, 115, 105]) v1 ∧ w1.heap.size ≤ v1.heap.size) := Lib.hid HI2.out
  have HW2 := Lib.hid (writeString_any w1.heap.size w1.heap.size (Lib.byteCells [40, 63, 115, 105]) ⟨#[41]⟩ _ HI2.out.1 (by simp [Lib.byteCells, ByteArray.size]) HI2.out.2)
  go_wp2_with fail
  refine HW2.out.mono ?_
  rintro e v2 ⟨rfl, hB2, hf2⟩
  have HI3 : Hid (IsB w1.heap.size w1.heap.size (Lib.byteCells ([40, 63, 115, 105] ++ [41])) v2 ∧ w1.heap.size ≤ v2.heap.size) := Lib.hid ⟨by have e : Lib.byteCells ([40, 63, 115, 105] ++ [41]) = Lib.byteCells [40, 63, 115, 105] ++ Lib.byteCells [41] := (by simp [Lib.byteCells]); rw [e]; exact hB2, Nat.le_trans HI2.out.2 hf2.1.size⟩
  have HL2 := Lib.hid (HL1.out.trans hf2.1)
  clear hB2 hf2 HW2 HI2
  have HI3 : Hid (IsB w1.heap.size w1.heap.size (Lib.byteCells [40, 63, 115, 105, 41]) v2 ∧ w1.heap.size ≤ v2.heap.size) := Lib.hid HI3.out
  go_upto_region 34 with fail
  rename_i K hK
  have HKK := Lib.hid hK
  clear hK
  go_wp2_with fail
  refine HKK.out _ _ ?_
  refine HX.out _ v2 HI3.out.1 HI3.out.2 HL2.out trivial ?_
  exact ⟨rfl, rfl, rfl, rfl, rfl, rfl⟩
theorem head101 (s : ByteArray) (m : Int) (w1 : World) (Q : Exit → Act → World → Prop) (hm : Mx m true true false)
    (hx : ∀ a v, IsB w1.heap.size w1.heap.size (Lib.byteCells (hdr true true false)) v → w1.heap.size ≤ v.heap.size → Below w1.heap.size w1 v → w1.heap.size ≤ v.heap.size → TF s m w1.heap.size v.heap.size (.slice none 0 0) a → Code.wp Tryz.prog rLo2 Q ⟨a, []⟩ (v.alloc (.cells #[.string s, .int .i64 0] 80)))
    (a : Array Value) (hF : QF s m a) : Code.wp Tryz.prog rRest Q ⟨a, []⟩ w1 := by
  refine hF.open (C := fun a => Code.wp Tryz.prog rRest Q ⟨a, []⟩ w1) fun x => ?_
  clear hF a
  have HX := Lib.hid (fun a v h1 h2 h3 (h4 : True) h5 => hx a v h1 h2 h3 h2 h5)
  have h8 := hm.n8
  have h1 := hm.n1
  have h4 := hm.n4
  have HI0 : Hid (IsB w1.heap.size w1.heap.size (Lib.byteCells []) (w1.alloc (.cells #[.pointer none, .slice none 0 0] 76)) ∧ w1.heap.size ≤ (w1.alloc (.cells #[.pointer none, .slice none 0 0] 76)).heap.size) :=
    Lib.hid ⟨Lib.IsBuilderF.of (Lib.fresh_isBuilder 76 5 w1), by simp⟩
  have HLz := Lib.hid ((Below.refl w1.heap.size w1).alloc (Nat.le_refl _) (.cells #[.pointer none, .slice none 0 0] 76))
  clear hx hm
  conv => arg 2; whnf
  have HW0 := Lib.hid (writeString_any w1.heap.size w1.heap.size (Lib.byteCells []) ⟨#[40, 63, 115]⟩ _ HI0.out.1 (by simp [Lib.byteCells, ByteArray.size]) HI0.out.2)
  go_wp2_with fail
  refine HW0.out.mono ?_
  rintro e v0 ⟨rfl, hB0, hf0⟩
  have HI1 : Hid (IsB w1.heap.size w1.heap.size (Lib.byteCells ([] ++ [40, 63, 115])) v0 ∧ w1.heap.size ≤ v0.heap.size) := Lib.hid ⟨by have e : Lib.byteCells ([] ++ [40, 63, 115]) = Lib.byteCells [] ++ Lib.byteCells [40, 63, 115] := (by simp [Lib.byteCells]); rw [e]; exact hB0, Nat.le_trans HI0.out.2 hf0.1.size⟩
  have HL0 := Lib.hid (HLz.out.trans hf0.1)
  clear hB0 hf0 HW0 HI0
  have HI1 : Hid (IsB w1.heap.size w1.heap.size (Lib.byteCells [40, 63, 115]) v0 ∧ w1.heap.size ≤ v0.heap.size) := Lib.hid HI1.out
  have HW1 := Lib.hid (writeString_any w1.heap.size w1.heap.size (Lib.byteCells [40, 63, 115]) ⟨#[105]⟩ _ HI1.out.1 (by simp [Lib.byteCells, ByteArray.size]) HI1.out.2)
  go_wp2_with fail
  refine HW1.out.mono ?_
  rintro e v1 ⟨rfl, hB1, hf1⟩
  have HI2 : Hid (IsB w1.heap.size w1.heap.size (Lib.byteCells ([40, 63, 115] ++ [105])) v1 ∧ w1.heap.size ≤ v1.heap.size) := Lib.hid ⟨by have e : Lib.byteCells ([40, 63, 115] ++ [105]) = Lib.byteCells [40, 63, 115] ++ Lib.byteCells [105] := (by simp [Lib.byteCells]); rw [e]; exact hB1, Nat.le_trans HI1.out.2 hf1.1.size⟩
  have HL1 := Lib.hid (HL0.out.trans hf1.1)
  clear hB1 hf1 HW1 HI1
  have HI2 : Hid (IsB w1.heap.size w1.heap.size (Lib.byteCells [40, 63, 115, 105]) v1 ∧ w1.heap.size ≤ v1.heap.size) := Lib.hid HI2.out
  have HW2 := Lib.hid (writeString_any w1.heap.size w1.heap.size (Lib.byteCells [40, 63, 115, 105]) ⟨#[41]⟩ _ HI2.out.1 (by simp [Lib.byteCells, ByteArray.size]) HI2.out.2)
  go_wp2_with fail
  refine HW2.out.mono ?_
  rintro e v2 ⟨rfl, hB2, hf2⟩
  have HI3 : Hid (IsB w1.heap.size w1.heap.size (Lib.byteCells ([40, 63, 115, 105] ++ [41])) v2 ∧ w1.heap.size ≤ v2.heap.size) := Lib.hid ⟨by have e : Lib.byteCells ([40, 63, 115, 105] ++ [41]) = Lib.byteCells [40, 63, 115, 105] ++ Lib.byteCells [41] := (by simp [Lib.byteCells]); rw [e]; exact hB2, Nat.le_trans HI2.out.2 hf2.1.size⟩
  have HL2 := Lib.hid (HL1.out.trans hf2.1)
  clear hB2 hf2 HW2 HI2
  have HI3 : Hid (IsB w1.heap.size w1.heap.size (Lib.byteCells [40, 63, 115, 105, 41]) v2 ∧ w1.heap.size ≤ v2.heap.size) := Lib.hid HI3.out
  have HW3 := Lib.hid (writeString_any w1.heap.size w1.heap.size (Lib.byteCells [40, 63, 115, 105, 41]) ⟨#[94]⟩ _ HI3.out.1 (by simp [Lib.byteCells, ByteArray.size]) HI3.out.2)
  go_wp2_with fail
  refine HW3.out.mono ?_
  rintro e v3 ⟨rfl, hB3, hf3⟩
  have HI4 : Hid (IsB w1.heap.size w1.heap.size (Lib.byteCells ([40, 63, 115, 105, 41] ++ [94])) v3 ∧ w1.heap.size ≤ v3.heap.size) := Lib.hid ⟨by have e : Lib.byteCells ([40, 63, 115, 105, 41] ++ [94]) = Lib.byteCells [40, 63, 115, 105, 41] ++ Lib.byteCells [94] := (by simp [Lib.byteCells]); rw [e]; exact hB3, Nat.le_trans HI3.out.2 hf3.1.size⟩
  have HL3 := Lib.hid (HL2.out.trans hf3.1)
  clear hB3 hf3 HW3 HI3
  have HI4 : Hid (IsB w1.heap.size w1.heap.size (Lib.byteCells [40, 63, 115, 105, 41, 94]) v3 ∧ w1.heap.size ≤ v3.heap.size) := Lib.hid HI4.out
  go_upto_region 34 with fail
  rename_i K hK
  have HKK := Lib.hid hK
  clear hK
  go_wp2_with fail
  refine HKK.out _ _ ?_
  refine HX.out _ v3 HI4.out.1 HI4.out.2 HL3.out trivial ?_
  exact ⟨rfl, rfl, rfl, rfl, rfl, rfl⟩
theorem head110 (s : ByteArray) (m : Int) (w1 : World) (Q : Exit → Act → World → Prop) (hm : Mx m false true true)
    (hx : ∀ a v, IsB w1.heap.size w1.heap.size (Lib.byteCells (hdr false true true)) v → w1.heap.size ≤ v.heap.size → Below w1.heap.size w1 v → w1.heap.size ≤ v.heap.size → TF s m w1.heap.size v.heap.size (.slice none 0 0) a → Code.wp Tryz.prog rLo2 Q ⟨a, []⟩ (v.alloc (.cells #[.string s, .int .i64 0] 80)))
    (a : Array Value) (hF : QF s m a) : Code.wp Tryz.prog rRest Q ⟨a, []⟩ w1 := by
  refine hF.open (C := fun a => Code.wp Tryz.prog rRest Q ⟨a, []⟩ w1) fun x => ?_
  clear hF a
  have HX := Lib.hid (fun a v h1 h2 h3 (h4 : True) h5 => hx a v h1 h2 h3 h2 h5)
  have h8 := hm.n8
  have h1 := hm.n1
  have h4 := hm.n4
  have HI0 : Hid (IsB w1.heap.size w1.heap.size (Lib.byteCells []) (w1.alloc (.cells #[.pointer none, .slice none 0 0] 76)) ∧ w1.heap.size ≤ (w1.alloc (.cells #[.pointer none, .slice none 0 0] 76)).heap.size) :=
    Lib.hid ⟨Lib.IsBuilderF.of (Lib.fresh_isBuilder 76 5 w1), by simp⟩
  have HLz := Lib.hid ((Below.refl w1.heap.size w1).alloc (Nat.le_refl _) (.cells #[.pointer none, .slice none 0 0] 76))
  clear hx hm
  conv => arg 2; whnf
  have HW0 := Lib.hid (writeString_any w1.heap.size w1.heap.size (Lib.byteCells []) ⟨#[40, 63, 115]⟩ _ HI0.out.1 (by simp [Lib.byteCells, ByteArray.size]) HI0.out.2)
  go_wp2_with fail
  refine HW0.out.mono ?_
  rintro e v0 ⟨rfl, hB0, hf0⟩
  have HI1 : Hid (IsB w1.heap.size w1.heap.size (Lib.byteCells ([] ++ [40, 63, 115])) v0 ∧ w1.heap.size ≤ v0.heap.size) := Lib.hid ⟨by have e : Lib.byteCells ([] ++ [40, 63, 115]) = Lib.byteCells [] ++ Lib.byteCells [40, 63, 115] := (by simp [Lib.byteCells]); rw [e]; exact hB0, Nat.le_trans HI0.out.2 hf0.1.size⟩
  have HL0 := Lib.hid (HLz.out.trans hf0.1)
  clear hB0 hf0 HW0 HI0
  have HI1 : Hid (IsB w1.heap.size w1.heap.size (Lib.byteCells [40, 63, 115]) v0 ∧ w1.heap.size ≤ v0.heap.size) := Lib.hid HI1.out
  have HW1 := Lib.hid (writeString_any w1.heap.size w1.heap.size (Lib.byteCells [40, 63, 115]) ⟨#[105]⟩ _ HI1.out.1 (by simp [Lib.byteCells, ByteArray.size]) HI1.out.2)
  go_wp2_with fail
  refine HW1.out.mono ?_
  rintro e v1 ⟨rfl, hB1, hf1⟩
  have HI2 : Hid (IsB w1.heap.size w1.heap.size (Lib.byteCells ([40, 63, 115] ++ [105])) v1 ∧ w1.heap.size ≤ v1.heap.size) := Lib.hid ⟨by have e : Lib.byteCells ([40, 63, 115] ++ [105]) = Lib.byteCells [40, 63, 115] ++ Lib.byteCells [105] := (by simp [Lib.byteCells]); rw [e]; exact hB1, Nat.le_trans HI1.out.2 hf1.1.size⟩
  have HL1 := Lib.hid (HL0.out.trans hf1.1)
  clear hB1 hf1 HW1 HI1
  have HI2 : Hid (IsB w1.heap.size w1.heap.size (Lib.byteCells [40, 63, 115, 105]) v1 ∧ w1.heap.size ≤ v1.heap.size) := Lib.hid HI2.out
  have HW2 := Lib.hid (writeString_any w1.heap.size w1.heap.size (Lib.byteCells [40, 63, 115, 105]) ⟨#[85]⟩ _ HI2.out.1 (by simp [Lib.byteCells, ByteArray.size]) HI2.out.2)
  go_wp2_with fail
  refine HW2.out.mono ?_
  rintro e v2 ⟨rfl, hB2, hf2⟩
  have HI3 : Hid (IsB w1.heap.size w1.heap.size (Lib.byteCells ([40, 63, 115, 105] ++ [85])) v2 ∧ w1.heap.size ≤ v2.heap.size) := Lib.hid ⟨by have e : Lib.byteCells ([40, 63, 115, 105] ++ [85]) = Lib.byteCells [40, 63, 115, 105] ++ Lib.byteCells [85] := (by simp [Lib.byteCells]); rw [e]; exact hB2, Nat.le_trans HI2.out.2 hf2.1.size⟩
  have HL2 := Lib.hid (HL1.out.trans hf2.1)
  clear hB2 hf2 HW2 HI2
  have HI3 : Hid (IsB w1.heap.size w1.heap.size (Lib.byteCells [40, 63, 115, 105, 85]) v2 ∧ w1.heap.size ≤ v2.heap.size) := Lib.hid HI3.out
  have HW3 := Lib.hid (writeString_any w1.heap.size w1.heap.size (Lib.byteCells [40, 63, 115, 105, 85]) ⟨#[41]⟩ _ HI3.out.1 (by simp [Lib.byteCells, ByteArray.size]) HI3.out.2)
  go_wp2_with fail
  refine HW3.out.mono ?_
  rintro e v3 ⟨rfl, hB3, hf3⟩
  have HI4 : Hid (IsB w1.heap.size w1.heap.size (Lib.byteCells ([40, 63, 115, 105, 85] ++ [41])) v3 ∧ w1.heap.size ≤ v3.heap.size) := Lib.hid ⟨by have e : Lib.byteCells ([40, 63, 115, 105, 85] ++ [41]) = Lib.byteCells [40, 63, 115, 105, 85] ++ Lib.byteCells [41] := (by simp [Lib.byteCells]); rw [e]; exact hB3, Nat.le_trans HI3.out.2 hf3.1.size⟩
  have HL3 := Lib.hid (HL2.out.trans hf3.1)
  clear hB3 hf3 HW3 HI3
  have HI4 : Hid (IsB w1.heap.size w1.heap.size (Lib.byteCells [40, 63, 115, 105, 85, 41]) v3 ∧ w1.heap.size ≤ v3.heap.size) := Lib.hid HI4.out
  go_upto_region 34 with fail
  rename_i K hK
  have HKK := Lib.hid hK
  clear hK
  go_wp2_with fail
  refine HKK.out _ _ ?_
  refine HX.out _ v3 HI4.out.1 HI4.out.2 HL3.out trivial ?_
  exact ⟨rfl, rfl, rfl, rfl, rfl, rfl⟩
theorem head111 (s : ByteArray) (m : Int) (w1 : World) (Q : Exit → Act → World → Prop) (hm : Mx m true true true)
    (hx : ∀ a v, IsB w1.heap.size w1.heap.size (Lib.byteCells (hdr true true true)) v → w1.heap.size ≤ v.heap.size → Below w1.heap.size w1 v → w1.heap.size ≤ v.heap.size → TF s m w1.heap.size v.heap.size (.slice none 0 0) a → Code.wp Tryz.prog rLo2 Q ⟨a, []⟩ (v.alloc (.cells #[.string s, .int .i64 0] 80)))
    (a : Array Value) (hF : QF s m a) : Code.wp Tryz.prog rRest Q ⟨a, []⟩ w1 := by
  refine hF.open (C := fun a => Code.wp Tryz.prog rRest Q ⟨a, []⟩ w1) fun x => ?_
  clear hF a
  have HX := Lib.hid (fun a v h1 h2 h3 (h4 : True) h5 => hx a v h1 h2 h3 h2 h5)
  have h8 := hm.n8
  have h1 := hm.n1
  have h4 := hm.n4
  have HI0 : Hid (IsB w1.heap.size w1.heap.size (Lib.byteCells []) (w1.alloc (.cells #[.pointer none, .slice none 0 0] 76)) ∧ w1.heap.size ≤ (w1.alloc (.cells #[.pointer none, .slice none 0 0] 76)).heap.size) :=
    Lib.hid ⟨Lib.IsBuilderF.of (Lib.fresh_isBuilder 76 5 w1), by simp⟩
  have HLz := Lib.hid ((Below.refl w1.heap.size w1).alloc (Nat.le_refl _) (.cells #[.pointer none, .slice none 0 0] 76))
  clear hx hm
  conv => arg 2; whnf
  have HW0 := Lib.hid (writeString_any w1.heap.size w1.heap.size (Lib.byteCells []) ⟨#[40, 63, 115]⟩ _ HI0.out.1 (by simp [Lib.byteCells, ByteArray.size]) HI0.out.2)
  go_wp2_with fail
  refine HW0.out.mono ?_
  rintro e v0 ⟨rfl, hB0, hf0⟩
  have HI1 : Hid (IsB w1.heap.size w1.heap.size (Lib.byteCells ([] ++ [40, 63, 115])) v0 ∧ w1.heap.size ≤ v0.heap.size) := Lib.hid ⟨by have e : Lib.byteCells ([] ++ [40, 63, 115]) = Lib.byteCells [] ++ Lib.byteCells [40, 63, 115] := (by simp [Lib.byteCells]); rw [e]; exact hB0, Nat.le_trans HI0.out.2 hf0.1.size⟩
  have HL0 := Lib.hid (HLz.out.trans hf0.1)
  clear hB0 hf0 HW0 HI0
  have HI1 : Hid (IsB w1.heap.size w1.heap.size (Lib.byteCells [40, 63, 115]) v0 ∧ w1.heap.size ≤ v0.heap.size) := Lib.hid HI1.out
  have HW1 := Lib.hid (writeString_any w1.heap.size w1.heap.size (Lib.byteCells [40, 63, 115]) ⟨#[105]⟩ _ HI1.out.1 (by simp [Lib.byteCells, ByteArray.size]) HI1.out.2)
  go_wp2_with fail
  refine HW1.out.mono ?_
  rintro e v1 ⟨rfl, hB1, hf1⟩
  have HI2 : Hid (IsB w1.heap.size w1.heap.size (Lib.byteCells ([40, 63, 115] ++ [105])) v1 ∧ w1.heap.size ≤ v1.heap.size) := Lib.hid ⟨by have e : Lib.byteCells ([40, 63, 115] ++ [105]) = Lib.byteCells [40, 63, 115] ++ Lib.byteCells [105] := (by simp [Lib.byteCells]); rw [e]; exact hB1, Nat.le_trans HI1.out.2 hf1.1.size⟩
  have HL1 := Lib.hid (HL0.out.trans hf1.1)
  clear hB1 hf1 HW1 HI1
  have HI2 : Hid (IsB w1.heap.size w1.heap.size (Lib.byteCells [40, 63, 115, 105]) v1 ∧ w1.heap.size ≤ v1.heap.size) := Lib.hid HI2.out
  have HW2 := Lib.hid (writeString_any w1.heap.size w1.heap.size (Lib.byteCells [40, 63, 115, 105]) ⟨#[85]⟩ _ HI2.out.1 (by simp [Lib.byteCells, ByteArray.size]) HI2.out.2)
  go_wp2_with fail
  refine HW2.out.mono ?_
  rintro e v2 ⟨rfl, hB2, hf2⟩
  have HI3 : Hid (IsB w1.heap.size w1.heap.size (Lib.byteCells ([40, 63, 115, 105] ++ [85])) v2 ∧ w1.heap.size ≤ v2.heap.size) := Lib.hid ⟨by have e : Lib.byteCells ([40, 63, 115, 105] ++ [85]) = Lib.byteCells [40, 63, 115, 105] ++ Lib.byteCells [85] := (by simp [Lib.byteCells]); rw [e]; exact hB2, Nat.le_trans HI2.out.2 hf2.1.size⟩
  have HL2 := Lib.hid (HL1.out.trans hf2.1)
  clear hB2 hf2 HW2 HI2
  have HI3 : Hid (IsB w1.heap.size w1.heap.size (Lib.byteCells [40, 63, 115, 105, 85]) v2 ∧ w1.heap.size ≤ v2.heap.size) := Lib.hid HI3.out
  have HW3 := Lib.hid (writeString_any w1.heap.size w1.heap.size (Lib.byteCells [40, 63, 115, 105, 85]) ⟨#[41]⟩ _ HI3.out.1 (by simp [Lib.byteCells, ByteArray.size]) HI3.out.2)
  go_wp2_with fail
  refine HW3.out.mono ?_
  rintro e v3 ⟨rfl, hB3, hf3⟩
  have HI4 : Hid (IsB w1.heap.size w1.heap.size (Lib.byteCells ([40, 63, 115, 105, 85] ++ [41])) v3 ∧ w1.heap.size ≤ v3.heap.size) := Lib.hid ⟨by have e : Lib.byteCells ([40, 63, 115, 105, 85] ++ [41]) = Lib.byteCells [40, 63, 115, 105, 85] ++ Lib.byteCells [41] := (by simp [Lib.byteCells]); rw [e]; exact hB3, Nat.le_trans HI3.out.2 hf3.1.size⟩
  have HL3 := Lib.hid (HL2.out.trans hf3.1)
  clear hB3 hf3 HW3 HI3
  have HI4 : Hid (IsB w1.heap.size w1.heap.size (Lib.byteCells [40, 63, 115, 105, 85, 41]) v3 ∧ w1.heap.size ≤ v3.heap.size) := Lib.hid HI4.out
  have HW4 := Lib.hid (writeString_any w1.heap.size w1.heap.size (Lib.byteCells [40, 63, 115, 105, 85, 41]) ⟨#[94]⟩ _ HI4.out.1 (by simp [Lib.byteCells, ByteArray.size]) HI4.out.2)
  go_wp2_with fail
  refine HW4.out.mono ?_
  rintro e v4 ⟨rfl, hB4, hf4⟩
  have HI5 : Hid (IsB w1.heap.size w1.heap.size (Lib.byteCells ([40, 63, 115, 105, 85, 41] ++ [94])) v4 ∧ w1.heap.size ≤ v4.heap.size) := Lib.hid ⟨by have e : Lib.byteCells ([40, 63, 115, 105, 85, 41] ++ [94]) = Lib.byteCells [40, 63, 115, 105, 85, 41] ++ Lib.byteCells [94] := (by simp [Lib.byteCells]); rw [e]; exact hB4, Nat.le_trans HI4.out.2 hf4.1.size⟩
  have HL4 := Lib.hid (HL3.out.trans hf4.1)
  clear hB4 hf4 HW4 HI4
  have HI5 : Hid (IsB w1.heap.size w1.heap.size (Lib.byteCells [40, 63, 115, 105, 85, 41, 94]) v4 ∧ w1.heap.size ≤ v4.heap.size) := Lib.hid HI5.out
  go_upto_region 34 with fail
  rename_i K hK
  have HKK := Lib.hid hK
  clear hK
  go_wp2_with fail
  refine HKK.out _ _ ?_
  refine HX.out _ v4 HI5.out.1 HI5.out.2 HL4.out trivial ?_
  exact ⟨rfl, rfl, rfl, rfl, rfl, rfl⟩
end Go.Proofs.YtpfgmiocdgfniaaGreatFmt

namespace Go.Proofs.YtpfgmiocdgfniaaGreatFmt
open Go.RowKit Go.Extern.Stop Go.Stop Go.Extern
inductive RO where
  | ok (t : List UInt8)
  | neg (gs : List (Nat × Nat))
  | syn
def rOut (ent : Bool) : RR → RO
  | .syn => .syn
  | .done acc gs => if gs = [] then .ok (acc ++ if ent then [36] else []) else .neg gs
def regexpM (md : Md) (ent nc sho : Bool) (s : ByteArray) : RO :=
  if (ent || nc) = false ∧ shc s (s.size + 1) 0 = false then .ok s.data.toList
  else rOut ent (loopR md s (s.size + 1) 0 (hdr ent nc sho) [])
def RegPost (r : RO) (n : Nat) (w : World) (e : Ending) (w' : World) : Prop := Below w.heap.size w w' ∧
  match r with
  | .ok t => e = .returned (.tuple #[.string ⟨t.toArray⟩, .nilIface])
  | .neg gs => ∃ p gv, e = .returned (.tuple #[.string ⟨#[]⟩, .iface 53 (.pointer (some ⟨p, 0, none⟩))]) ∧ w'.heap[p]? = some (.cells #[gv] 58 (0, 0)) ∧ w'.ownsRow w.heap.size tG 2 gv gs.length (grCells gs) ∧ gs.length ≤ n
  | .syn => ∃ v, e = .returned (.tuple #[.string ⟨#[]⟩, v]) ∧ SynErr w' v
structure RPre (F : Interp) (s : ByteArray) (pe : Addr) (w : World) : Prop where
  T : Tabs w
  E : w.cell? ⟨gE, 0, none⟩ = some (eofV pe)
  F : F.answers w.tape
  hs : s.size ≤ 4398046511104
  gB : GG w.heap.size
def RetQ2 (Q : Exit → Act → World → Prop) (Post : Ending → World → Prop) : Prop := ∀ (a : Array Value) (w : World) (v u : Value), a.size = 91 → a[4]? = some v → a[5]? = some u → Post (.returned (.tuple #[v, u])) w → Q .ret ⟨a, []⟩ w
theorem ownsRow.le {w : World} {B B' : Nat} {e : TypeId} {n k : Nat} {v : Value} {xs : List Value} (h : w.ownsRow B e n v k xs) (hB : B' ≤ B) : w.ownsRow B' e n v k xs := by
  refine ⟨h.1, ?_⟩
  rcases h.2 with hn | ⟨g, cap, cur, hv, hb, rest⟩
  · exact .inl hn
  · exact .inr ⟨g, cap, cur, hv, Nat.le_trans hB hb, rest⟩
theorem lo2_all (F : Interp) (B b ls : Nat) (s : ByteArray) (pe : Addr) (m : Int) (md : Md) (ent nc sho : Bool) (w0 w : World) (Post : Ending → World → Prop) (Q : Exit → Act → World → Prop) (hm : Mo m md) (hx : Mx m ent nc sho) (hQ : RetQ2 Q Post)
    (hT : TW F B b ls s pe w0 0 (hdr ent nc sho) (.slice none 0 0) [] w) (hP : ∀ e w', RegPost (rOut ent (loopR md s (s.size + 1) 0 (hdr ent nc sho) [])) s.size w0 e w' → Post e w')
    (a : Array Value) (hF : TF s m b ls (.slice none 0 0) a) : Code.wp Tryz.prog rLo2 Q ⟨a, []⟩ w := by
  rw [rLo2_eq]
  refine wp_seq (wp_block (wp_loop_rounds (s.size + 1) ?_))
  refine t_rounds F B b ls s pe m md w0 (Exit.inBlock 3 (Exit.then (rFin.wp Tryz.prog Q) Q)) _ hm ?_ ?_ (s.size + 1) 0 (hdr ent nc sho) (.slice none 0 0) [] w a hF hT (by omega) rfl
  · intro acc gs gv i' a' w' hF' hT' hR
    rw [hR] at hP
    show Code.wp Tryz.prog rFin Q ⟨a', []⟩ w'
    by_cases hgs : gs = []
    · subst hgs
      cases hen : ent with
      | true =>
        rw [hen] at hP
        exact fin_ok1 F B b ls s pe m ent nc sho w0 w' i' acc gv [] Q hx hT' rfl hen (fun a w' h1 h2 h3 h4 => hQ a w' _ _ h1 h2 h3 (hP _ _ ⟨h4, by simp [rOut]⟩)) a' hF'
      | false =>
        rw [hen] at hP
        exact fin_ok0 F B b ls s pe m ent nc sho w0 w' i' acc gv [] Q hx hT' rfl hen (fun a w' h1 h2 h3 h4 => hQ a w' _ _ h1 h2 h3 (hP _ _ ⟨h4, by simp [rOut]⟩)) a' hF'
    · have hr : rOut ent (.done acc gs) = .neg gs := by simp [rOut, hgs]
      rw [hr] at hP
      have h1 := hT'.gl; have h2 := hT'.pre.hi
      exact fin_neg F B b ls s pe m ent nc sho w0 w' i' acc gv gs Q hx hT' hgs (fun a w' p h1 h2 h3 h4 h5 h6 => hQ a w' _ _ h1 h2 h3 (hP _ _ ⟨h6, p, gv, rfl, h4, ownsRow.le h5 hT'.le, by omega⟩)) a' hF'
  · intro a' w' v h1 h2 h3 h4 h5 hR
    rw [hR] at hP
    exact hQ a' w' _ _ h1 h2 h3 (hP _ _ ⟨h5, v, rfl, h4⟩)
theorem rest2_all (F : Interp) (s : ByteArray) (pe : Addr) (m : Int) (md : Md) (ent nc sho : Bool) (w0 w : World) (Post : Ending → World → Prop) (Q : Exit → Act → World → Prop) (hm : Mo m md) (hx : Mx m ent nc sho) (hQ : RetQ2 Q Post) (hp : RPre F s pe w0) (hb : Below w0.heap.size w0 w)
    (hP : ∀ e w', RegPost (rOut ent (loopR md s (s.size + 1) 0 (hdr ent nc sho) [])) s.size w0 e w' → Post e w')
    (a : Array Value) (hF : QF s m a) : Code.wp Tryz.prog rRest Q ⟨a, []⟩ w := by
  have key : ∀ a v, IsB w.heap.size w.heap.size (Lib.byteCells (hdr ent nc sho)) v → w.heap.size ≤ v.heap.size → Below w.heap.size w v → w.heap.size ≤ v.heap.size → TF s m w.heap.size v.heap.size (.slice none 0 0) a → Code.wp Tryz.prog rLo2 Q ⟨a, []⟩ (v.alloc (.cells #[.string s, .int .i64 0] 80)) := by
    intro a v hB hle hbv _ hF
    have hb2 : Below w0.heap.size w0 v := hb.trans (hbv.mono hb.size)
    have hb3 : Below v.heap.size v (v.alloc (.cells #[.string s, .int .i64 0] 80)) := (Below.refl _ _).alloc (Nat.le_refl _) _
    have hb4 : Below w0.heap.size w0 (v.alloc (.cells #[.string s, .int .i64 0] 80)) := hb2.trans (hb3.mono hb2.size)
    have k := Kp.of_below (X := fun _ => False) hb4
    have g := hp.gB
    refine lo2_all F w.heap.size w.heap.size v.heap.size s pe m md ent nc sho w0 _ Post Q hm hx hQ ⟨⟨⟨fun c hc => k.cell id (hp.T.1 c hc), fun i hi => ⟨k.cell id (hp.T.2 i hi).1, k.cell id (hp.T.2 i hi).2⟩⟩, k.cell id hp.E, by rw [k.tape]; exact hp.F, g.mono hb2.size, hp.hs, alloc_at _ _, hB.below hb3, Nat.le_trans hle hb3.size, g.mono hb.size, Nat.zero_le _, ?_⟩, ⟨by simp [grCells], .inl ⟨rfl, rfl⟩⟩, hb4, hb.size, hb2.size, Nat.zero_le _⟩ hP a hF
    cases ent <;> cases nc <;> cases sho <;> simp [hdr]
  cases nc <;> cases sho <;> cases ent
  · exact head000 s m w Q hx key a hF
  · exact head001 s m w Q hx key a hF
  · exact head010 s m w Q hx key a hF
  · exact head011 s m w Q hx key a hF
  · exact head100 s m w Q hx key a hF
  · exact head101 s m w Q hx key a hF
  · exact head110 s m w Q hx key a hF
  · exact head111 s m w Q hx key a hF
theorem regexp_walk (F : Interp) (s : ByteArray) (pe : Addr) (m : Int) (md : Md) (ent nc sho : Bool) (w : World) (hm : Mo m md) (hx : Mx m ent nc sho) (hp : RPre F s pe w) :
    Calls Tryz.prog 15 #[.string s, .int .u64 m] w (RegPost (regexpM md ent nc sho s) s.size w) := by
  have hQ : RetQ2 (bodyPost Tryz.prog Tryz.f15 (RegPost (regexpM md ent nc sho s) s.size w)) (RegPost (regexpM md ent nc sho s) s.size w) := by
    intro a w v u h1 h2 h3 h4
    exact bodyPost_ret (v := .tuple #[v, u]) (by simp [results, Tryz.results15, go_sem, h2, h3]) rfl h4
  have hr2 : ∀ w', Below w.heap.size w w' → (regexpM md ent nc sho s = rOut ent (loopR md s (s.size + 1) 0 (hdr ent nc sho) [])) → ∀ a, QF s m a → Code.wp Tryz.prog rRest (bodyPost Tryz.prog Tryz.f15 (RegPost (regexpM md ent nc sho s) s.size w)) ⟨a, []⟩ w' := fun w' hb he a hF =>
    rest2_all F s pe m md ent nc sho w w' (RegPost (regexpM md ent nc sho s) s.size w) _ hm hx hQ hp hb (by rw [he]; exact fun _ _ h => h) a hF
  have hbody : ∀ a, QF s m a → Code.wp Tryz.prog (sq2 rbd) (bodyPost Tryz.prog Tryz.f15 (RegPost (regexpM md ent nc sho s) s.size w)) ⟨a, []⟩ w := by
    intro a hF
    have e : sq2 rbd = .seq rS1 rRest := rfl
    rw [e]
    refine wp_seq ?_
    cases h12 : (ent || nc) with
    | true => exact s1_no s m ent nc sho w _ _ hx h12 (fun a hF => hr2 w (Below.refl _ _) (by unfold regexpM; rw [h12]; simp) a hF) a hF
    | false =>
      refine s1_yes s m ent nc sho w _ _ hx h12 hp.hs ?_ ?_ a hF
      · intro hs a w' hF' hb
        exact hr2 w' hb (by unfold regexpM; rw [h12, hs]; simp) a hF'
      · intro hs a w' h1 h2 h3 hb
        have e2 : regexpM md ent nc sho s = .ok s.data.toList := by unfold regexpM; rw [h12, hs]; simp
        refine hQ a w' _ _ h1 h2 h3 ⟨hb, ?_⟩
        rw [e2]
  have HB := Lib.hid hbody
  clear hbody hr2 hQ hp hx hm
  go_enter Tryz.func15, Tryz.ntmps15
  refine wp_seq_k fun K hK => ?_
  have HK := Lib.hid hK
  clear hK
  go_wp2_with fail
  refine HK.out _ _ ?_
  refine HB.out _ ?_
  exact ⟨rfl, rfl, rfl⟩
end Go.Proofs.YtpfgmiocdgfniaaGreatFmt
