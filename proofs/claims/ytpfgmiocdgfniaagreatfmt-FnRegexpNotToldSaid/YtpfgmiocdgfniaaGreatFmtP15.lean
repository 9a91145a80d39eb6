/- Joined by pack.py: NextG, GrS, GrO. -/
import Derived.Test.YtpfgmiocdgfniaaGreatFmtP05
import Derived.Test.YtpfgmiocdgfniaaGreatFmtP14
set_option linter.unusedVariables false
set_option maxHeartbeats 8000000
set_option maxRecDepth 1000000
namespace Go.Proofs.YtpfgmiocdgfniaaGreatFmt
open Go.RowKit Go.Extern
def Gd (s : ByteArray) (i : Nat) (r : Res) : Prop := r.err ≠ 1 ∧ (r.err ≠ 3 → i < r.i ∧ r.i ≤ s.size ∧ r.out.length ≤ 16 * (r.i - i))
theorem Gd.syn (s : ByteArray) (i j : Nat) (out : List UInt8) : Gd s i ⟨3, 0, j, out⟩ := ⟨by simp, fun h => absurd rfl h⟩
theorem Gd.ok {s : ByteArray} {i j : Nat} {out : List UInt8} (h1 : i < j) (h2 : j ≤ s.size) (h3 : out.length ≤ 16 * (j - i)) : Gd s i ⟨0, 0, j, out⟩ := ⟨by simp, fun _ => ⟨h1, h2, h3⟩⟩
theorem rq_en8 (c : Nat) : (rq (en c)).length ≤ 8 := by
  have h := rq_len (en c)
  have := en_len c
  omega
theorem cc_le2 (l : List UInt8) : (cc l).1 ≤ l.length := by
  unfold cc
  split
  · simp
  · rename_i c r
    split
    · split
      · simp
      · rename_i k hk
        have := idx_le _ _ _ hk
        simp only [List.length_cons, List.length_nil] at this ⊢
        omega
    · split
      · split
        · simp
        · rename_i k hk
          have := idx_le _ _ _ hk
          simp only [List.length_cons, List.length_nil] at this ⊢
          omega
      · simp
theorem brL_good (fil : Bool) (s : ByteArray) (lit : Nat) (hlit : 1 ≤ lit) (hls : lit ≤ s.size) : ∀ (f : Nat) (t : Br), lit ≤ t.i → t.i ≤ s.size → t.bs.length + 8 * lit ≤ 8 * t.i + 8 → (t.c ≠ 0 → t.bs.length + 8 * lit ≤ 8 * t.i) → Gd s (lit - 1) (brL fil s lit f t)
  | 0, t, _, _, _, _ => by
    refine Gd.ok (by omega) hls ?_
    simp only [List.length_cons, List.length_nil]; omega
  | f + 1, t, h1, h2, h3, h4 => by
    obtain ⟨hj0, hj1, hj2⟩ := nx_le s t.i h2
    unfold brL
    split
    · split
      · exact Gd.syn _ _ _ _
      · refine Gd.ok (by omega) hls ?_
        simp only [List.length_cons, List.length_nil]; omega
    rename_i hc0
    have h5 := h4 hc0
    split
    · split
      · refine brL_good fil s lit hlit hls f _ ?_ ?_ ?_ ?_ <;> simp only
        · omega
        · exact hj1
        · omega
        · exact fun h => absurd rfl h
      · rename_i hz
        obtain ⟨ha, _⟩ := nx_adv s t.i hz
        obtain ⟨hk0, hk1, hk2⟩ := nx_le s (nx s t.i).2 hj1
        have he : (brEsc fil t (nx s t.i).1 (nx s t.i).2).i = (nx s t.i).2 ∧ (brEsc fil t (nx s t.i).1 (nx s t.i).2).bs.length ≤ t.bs.length + 8 := by
          have := rq_en8 (nx s t.i).1
          have := en_len (nx s t.i).1
          unfold brEsc
          split
          · exact ⟨rfl, by simp⟩
          · split
            · exact ⟨rfl, by simp only [List.length_append]; omega⟩
            · exact ⟨rfl, by simp only [List.length_append]; omega⟩
        refine brL_good fil s lit hlit hls f _ ?_ ?_ ?_ ?_ <;> simp only [adv, he.1]
        · omega
        · exact hk1
        · omega
        · intro h; have := nx_adv s _ h; omega
    split
    · have he : (brDash s t).i = t.i ∧ (brDash s t).bs.length = t.bs.length + 1 := ⟨rfl, by simp [brDash]⟩
      refine brL_good fil s lit hlit hls f _ ?_ ?_ ?_ ?_ <;> simp only [adv, he.1]
      · omega
      · exact hj1
      · omega
      · intro h; have := nx_adv s _ h; omega
    split
    · split
      · refine Gd.ok (by omega) h2 ?_
        have := rq_len (s.extract (lit - 1) t.i).data.toList
        rw [Pat.size_toList, ByteArray.size_extract] at this
        omega
      · split
        · exact Gd.syn _ _ _ _
        · refine Gd.ok (by omega) h2 ?_
          simp only [List.length_append, List.length_cons, List.length_nil]; omega
    split
    · obtain ⟨n, er, hcc⟩ : ∃ n er, cc (s.extract t.i s.size).data.toList = (n, er) := ⟨_, _, rfl⟩
      have hnr : n ≤ s.size - t.i := by
        have := cc_le2 (s.extract t.i s.size).data.toList
        rw [hcc, Pat.size_toList, ByteArray.size_extract] at this; simp only at this; omega
      have he : (brOpen fil s t).i = t.i + n ∧ (brOpen fil s t).bs.length = t.bs.length + 1 + n := by
        unfold brOpen
        rw [hcc]
        refine ⟨rfl, ?_⟩
        simp only [List.length_append, List.length_cons, Pat.size_toList, ByteArray.size_extract]
        omega
      obtain ⟨hk0, hk1, hk2⟩ := nx_le s (t.i + n) (by omega)
      refine brL_good fil s lit hlit hls f _ ?_ ?_ ?_ ?_ <;> simp only [adv, he.1]
      · omega
      · exact hk1
      · omega
      · intro h; have := nx_adv s _ h; omega
    · have he : (brDef fil t).i = t.i ∧ (brDef fil t).bs.length ≤ t.bs.length + 4 := ⟨rfl, by have := en_len t.c; simp [brDef]; omega⟩
      refine brL_good fil s lit hlit hls f _ ?_ ?_ ?_ ?_ <;> simp only [adv, he.1]
      · omega
      · exact hj1
      · omega
      · intro h; have := nx_adv s _ h; omega
theorem brk_good (fil : Bool) (s : ByteArray) (lit : Nat) (hlit : 1 ≤ lit) (hls : lit ≤ s.size) : Gd s (lit - 1) (brk fil s lit) := by
  have hb : Gd s (lit - 1) (litB lit) := by
    refine Gd.ok (by omega) hls ?_
    simp only [List.length_cons, List.length_nil]; omega
  obtain ⟨a0, a1, a2⟩ := nx_le s lit hls
  have h3 : ∀ c i bs, lit < i → i ≤ s.size → bs.length + 8 * lit ≤ 8 * i → Gd s (lit - 1) (br3 fil s lit c i bs) := fun c i bs h1 h2 h3 =>
    brL_good fil s lit hlit hls _ _ (by simp only; omega) h2 (by simp only; omega) (fun _ => by simp only; omega)
  have h2 : ∀ c i bs, lit < i → i ≤ s.size → bs.length + 8 * lit ≤ 8 * i → Gd s (lit - 1) (br2 fil s lit c i bs) := by
    intro c i bs h1 hh h4
    obtain ⟨b0, b1, b2⟩ := nx_le s i hh
    unfold br2
    split
    · split
      · exact hb
      · rename_i hz
        have := nx_adv s i hz
        exact h3 _ _ _ (by omega) b1 (by simp only [List.length_append, List.length_cons, List.length_nil]; omega)
    · exact h3 _ _ _ h1 hh h4
  unfold brk
  split
  · exact hb
  · rename_i hz
    have := nx_adv s lit hz
    obtain ⟨b0, b1, b2⟩ := nx_le s (nx s lit).2 a1
    unfold br1
    split
    · split
      · exact hb
      · rename_i hz2
        have := nx_adv s _ hz2
        exact h2 _ _ _ (by omega) b1 (by simp only [List.length_cons, List.length_nil]; omega)
    · exact h2 _ _ _ (by omega) a1 (by simp only [List.length_cons, List.length_nil]; omega)
theorem star_good (md : Md) (s : ByteArray) (i : Nat) (hi : 1 ≤ i) (hs : i ≤ s.size) : Gd s (i - 1) (star md s i) := by
  have ht : ∀ sb, (stTail md sb).length ≤ 13 := by intro sb; unfold stTail; split <;> simp
  have hsl : (stSlash md).length ≤ 15 := by unfold stSlash; split <;> simp [dotstar]
  unfold star
  split
  · split
    · rename_i h42
      have h1 := nx_adv s i (by omega)
      unfold star2
      split
      · split
        · rename_i h47
          have h2 := nx_adv s (i + 1) (by omega)
          exact Gd.ok (by omega) (by omega) (by simp only [List.length_cons, List.length_append, List.length_nil]; omega)
        · exact Gd.ok (by omega) (by omega) (by omega)
      · exact Gd.ok (by omega) (by omega) (by have := ht (i == 1 || lastR s i == 47); omega)
    · exact Gd.ok (by omega) hs (by have := ht (i == 1 || lastR s i == 47); omega)
  · exact Gd.ok (by omega) hs (by simp only [dotstar, List.length_cons, List.length_nil]; omega)
theorem rest_good (md : Md) (s : ByteArray) (c i : Nat) (hi : 1 ≤ i) (hs : i ≤ s.size) (h0 : c ≠ 0) (j : Nat) (hj : j < i) : Gd s j (rest md s c i) := by
  have wk : ∀ r, Gd s (i - 1) r → Gd s j r := fun r h => ⟨h.1, fun h3 => by have := h.2 h3; omega⟩
  have hen := en_len c
  have hrq := rq_en8 c
  apply wk
  unfold rest
  rw [if_neg h0]
  split
  · exact star_good md s i hi hs
  split
  · refine Gd.ok (by omega) hs ?_
    split <;> simp only [List.length_cons, List.length_nil] <;> omega
  split
  · split
    · exact Gd.syn _ _ _ _
    · rename_i hz
      have h1 := nx_adv s i hz
      have := nx_le s i hs
      have := rq_en8 (nx s i).1
      exact Gd.ok (by omega) (by omega) (by omega)
  split
  · exact brk_good md.fil s i hi hs
  split
  · exact Gd.ok (by omega) hs (by omega)
  · exact Gd.ok (by omega) hs (by omega)
def GG2 (s : ByteArray) (i : Nat) : Grp → Prop
  | .opened => True
  | .err r => Gd s i r
  | .closed j acc => i < j ∧ j < s.size ∧ (nx s j).1 = 41 ∧ acc.length ≤ 16 * (j - i)
theorem grp_good (nxt : Nat → Res) (s : ByteArray) (i : Nat) (hn : ∀ j, i < j → j ≤ s.size → (nx s j).1 ≠ 0 → Gd s j (nxt j)) : ∀ (f j : Nat) (acc : List UInt8), i < j → j ≤ s.size → acc.length ≤ 16 * (j - i) → GG2 s i (grp nxt s f j acc)
  | 0, j, acc, _, _, _ => trivial
  | f + 1, j, acc, h1, h2, h3 => by
    unfold grp
    split
    · rename_i h
      have := nx_adv s j (by omega)
      exact ⟨h1, this.2, h, h3⟩
    split
    · rename_i h
      have := nx_adv s j (by omega)
      have := nx_le s j h2
      exact grp_good nxt s i hn f _ _ (by omega) (by omega) (by simp only [List.length_append, List.length_cons, List.length_nil]; omega)
    split
    · trivial
    rename_i hz
    have hg := hn j h1 h2 hz
    split
    · rename_i he
      have := hg.2 (by omega)
      exact grp_good nxt s i hn f _ _ (by omega) (by omega) (by simp only [List.length_append]; omega)
    · exact ⟨hg.1, fun h => by have := hg.2 h; omega⟩
theorem next_good (md : Md) (s : ByteArray) : ∀ (f i : Nat), i ≤ s.size → s.size < f + i → ((nx s i).1 = 0 → next md s f i = ⟨1, 0, (nx s i).2, []⟩) ∧ ((nx s i).1 ≠ 0 → Gd s i (next md s f i))
  | 0, i, h1, h2 => by omega
  | f + 1, i, h1, h2 => by
    refine ⟨fun h => ?_, fun h => ?_⟩
    · unfold next
      rw [h]
      simp [isOp, rest]
    · obtain ⟨a0, a1⟩ := nx_adv s i h
      obtain ⟨b0, b1, b2⟩ := nx_le s i h1
      have hr := rest_good md s (nx s i).1 (nx s i).2 (by omega) b1 h i a0
      unfold next
      split
      · rename_i hc
        simp only [Bool.and_eq_true, beq_iff_eq] at hc
        obtain ⟨⟨_, hop⟩, h40⟩ := hc
        have c0 := nx_adv s (nx s i).2 (by omega)
        have c1 := nx_le s (nx s i).2 b1
        have hg := grp_good (next md s f) s i (fun j hj hjs hz => (next_good md s f j hjs (by omega)).2 hz) (s.size + 1) (nx s (nx s i).2).2 [40] (by omega) (by omega) (by simp only [List.length_cons, List.length_nil]; omega)
        split
        · exact hr
        · rename_i r he
          rw [he] at hg
          exact ⟨hg.1, fun h => by have := hg.2 h; simp only [List.length_nil]; omega⟩
        · rename_i j acc he
          rw [he] at hg
          obtain ⟨g1, g2, g3, g4⟩ := hg
          have d := nx_ascii s j (by omega) (by omega)
          unfold closeG
          rw [d]
          have hen := en_len (nx s i).1
          split
          · exact ⟨by simp, fun _ => ⟨by simp only; omega, by simp only; omega, by simp only [List.length_append, List.length_cons, List.length_nil]; omega⟩⟩
          split
          · exact Gd.ok (by omega) (by omega) (by simp only [List.length_append, List.length_cons, List.length_nil]; omega)
          · exact Gd.ok (by omega) (by omega) (by simp only [List.length_append, List.length_cons, List.length_nil]; omega)
      · exact hr
end Go.Proofs.YtpfgmiocdgfniaaGreatFmt

namespace Go.Proofs.YtpfgmiocdgfniaaGreatFmt
open Go.RowKit Go.Extern.Stop Go.Stop Go.Extern
def scC : Code → Code | .scope c => c | c => c
noncomputable def nbd : Code := Tryz.f23.body.getD .skip
noncomputable def extC : Code := sq1 (sq2 (sq2 nbd))
noncomputable def exX : Code := scC (thC (sq2 extC))
noncomputable def exY : Code := blC (sq2 (sq2 (sq2 exX)))
noncomputable def exZ : Code := scC (thC (sq2 exY))
noncomputable def gLo : Code := sq2 (sq2 (sq2 (sq2 (sq2 exZ))))
noncomputable def gBody : Code := loC (blC (sq1 gLo))
noncomputable def gAft : Code := sq2 gLo
structure GF (m : Int) (k3 k4 g c sp : Nat) (a : Array Value) : Prop where
  sz : a.size = 389
  s2 : a[2]? = some (.int .u64 m)
  s3 : a[3]? = some (.pointer (some ⟨k3, 0, none⟩))
  s4 : a[4]? = some (.pointer (some ⟨k4, 0, none⟩))
  s6 : a[6]? = some .nilIface
  s7 : a[7]? = some (.int .i32 (c : Int))
  s8 : a[8]? = some (.int .i32 (c : Int))
  s9 : a[9]? = some (.int .i64 (sp : Int))
  s10 : a[10]? = some (.pointer (some ⟨g, 0, none⟩))
theorem GF.rf {m : Int} {k3 k4 g c sp : Nat} {a : Array Value} (h : GF m k3 k4 g c sp a) : RF m k3 k4 c a := ⟨h.sz, h.s2, h.s3, h.s4, h.s6, h.s7⟩
structure GC (F : Interp) (B b ls k3 k4 : Nat) (s : ByteArray) (eof : Value) (acc : List UInt8) (sp : Nat) (w0 : World) : Prop where
  st : St F B b ls k3 k4 s eof (sp + 1) acc w0
  len : acc.length ≤ 16 * (sp + 1) + 64
structure GS (ls : Nat) (s : ByteArray) (w0 : World) (g j : Nat) (ga : List UInt8) (w : World) : Prop where
  kp : Kp (· = ls) w0 w
  L : Lx ls s j w
  Bg : IsB w0.heap.size g (Lib.byteCells ga) w
  hi : j ≤ s.size
  gl : ga.length ≤ 16 * j
section
variable {F : Interp} {B b ls k3 k4 : Nat} {s : ByteArray} {eof : Value} {sp : Nat} {acc : List UInt8} {w0 w w' : World} {g j : Nat} {ga : List UInt8}
theorem GS.st (hC : GC F B b ls k3 k4 s eof acc sp w0) (h : GS ls s w0 g j ga w) : St F B b ls k3 k4 s eof j acc w := hC.st.lex h.L h.hi h.kp
theorem GS.lex {j' : Nat} (h : GS ls s w0 g j ga w) (hL : Lx ls s j' w') (hj : j' ≤ s.size) (hij : j ≤ j') (k : Kp (· = ls) w w') : GS ls s w0 g j' ga w' :=
  ⟨h.kp.lsls k, hL, h.Bg.lex h.L k, hj, by have := h.gl; omega⟩
theorem GS.below (h : GS ls s w0 g j ga w) (k : Below w.heap.size w w') : GS ls s w0 g j ga w' :=
  ⟨h.kp.next k, h.L.kept (X := fun _ => False) (.of_below k) id, h.Bg.below k, h.hi, h.gl⟩
theorem GS.write {out : List UInt8} (h : GS ls s w0 g j ga w) (hB : IsB w0.heap.size g (Lib.byteCells ga ++ Lib.byteCells out) w') (hf : Frame w0.heap.size g w w') (hl : ga.length + out.length ≤ 16 * j) : GS ls s w0 g j (ga ++ out) w' := by
  obtain ⟨hBb, _, c, hb⟩ := h.Bg.block
  refine ⟨h.kp.sub hf (Nat.le_refl _) hBb, h.L.kept hf.kp ?_, ?_, h.hi, by rw [List.length_append]; exact hl⟩
  · rintro (e | ⟨_, h1⟩)
    · exact heap_ne h.L hb (by decide) e
    · exact not_row h.L (by decide) h1
  · have e : Lib.byteCells (ga ++ out) = Lib.byteCells ga ++ Lib.byteCells out := by simp [Lib.byteCells]
    rw [e]; exact hB
theorem GS.room (hC : GC F B b ls k3 k4 s eof acc sp w0) (h : GS ls s w0 g j ga w) : (Lib.byteCells ga).length ≤ 70368744177664 := by
  have h1 := h.gl; have h2 := h.hi; have h3 := hC.st.base.hs
  simp only [Lib.byteCells, List.length_map]
  omega
theorem GC.alen (hC : GC F B b ls k3 k4 s eof acc sp w0) : acc.length ≤ 100000000000000 := by
  have h1 := hC.len; have h2 := hC.st.hi; have h3 := hC.st.base.hs
  omega
theorem GS.call {j' : Nat} {ga' : List UInt8} (h : GS ls s w0 g j ga w) (hL : Lx ls s j' w') (hB : IsB w0.heap.size g (Lib.byteCells ga') w') (k : Kp (XX ls w0.heap.size g w) w w') (hj : j' ≤ s.size) (hl : ga'.length ≤ 16 * j') : GS ls s w0 g j' ga' w' :=
  ⟨h.kp.subcall k (Nat.le_refl _) h.Bg.block.1, hL, hB, hj, hl⟩
end
structure Pre (F : Interp) (B b ls : Nat) (s : ByteArray) (eof : Value) (i : Nat) (acc : List UInt8) (w : World) : Prop where
  T : Tabs w
  E : w.cell? ⟨gE, 0, none⟩ = some eof
  F : F.answers w.tape
  gl : GG ls
  hs : s.size ≤ 4398046511104
  L : Lx ls s i w
  Bd : IsB B b (Lib.byteCells acc) w
  sz : B ≤ w.heap.size
  gB : GG B
  hi : i ≤ s.size
  len : acc.length ≤ 16 * i + 64
theorem St.pre {F : Interp} {B b ls k3 k4 : Nat} {s : ByteArray} {eof : Value} {i : Nat} {acc : List UInt8} {w : World} (h : St F B b ls k3 k4 s eof i acc w) (hl : acc.length ≤ 16 * i + 64) : Pre F B b ls s eof i acc w :=
  ⟨h.base.T, h.base.E, h.base.F, h.base.gl, h.base.hs, h.L, h.Bd, h.sz, h.gB, h.hi, hl⟩
theorem GS.pre {F : Interp} {B b ls k3 k4 : Nat} {s : ByteArray} {eof : Value} {sp : Nat} {acc : List UInt8} {w0 w : World} {g j : Nat} {ga : List UInt8} (hC : GC F B b ls k3 k4 s eof acc sp w0) (h : GS ls s w0 g j ga w) : Pre F w0.heap.size g ls s eof j ga w :=
  ⟨(h.st hC).base.T, (h.st hC).base.E, (h.st hC).base.F, (h.st hC).base.gl, (h.st hC).base.hs, h.L, h.Bg, h.kp.size, hC.st.gB.mono hC.st.sz, h.hi, by have := h.gl; omega⟩
def NIH (F : Interp) (ls : Nat) (s : ByteArray) (eof : Value) (m : Int) (md : Md) (f : Nat) : Prop :=
  ∀ (B b i : Nat) (acc : List UInt8) (w : World), Pre F B b ls s eof i acc w → s.size < f + i → Calls Tryz.prog 23 #[.pointer (some ⟨b, 0, none⟩), .pointer (some ⟨ls, 0, none⟩), .int .u64 m] w (NPost B b ls s eof acc w (next md s f i))
theorem ErrIs.ne {eof : Value} {r : Res} {w : World} {v : Value} (h : ErrIs eof r w v) (h1 : r.err = 2 ∨ r.err = 3) : ∃ t p, v = .iface t (.pointer (some p)) := by
  rcases h1 with h1 | h1
  · obtain ⟨p, q, rfl, _⟩ := h.2.2.1 h1; exact ⟨_, _, rfl⟩
  · obtain ⟨p, m, u, rfl, _⟩ := h.2.2.2 h1; exact ⟨_, _, rfl⟩
end Go.Proofs.YtpfgmiocdgfniaaGreatFmt

namespace Go.Proofs.YtpfgmiocdgfniaaGreatFmt
open Go.RowKit Go.Extern.Stop Go.Stop Go.Extern
theorem GF.open {m : Int} {k3 k4 g c st : Nat} {a : Array Value} {C : Array Value → Prop} (h : GF m k3 k4 g c st a)
    (hx : ∀ x : Nat → Value, C #[x 0, x 1, .int .u64 m, .pointer (some ⟨k3, 0, none⟩), .pointer (some ⟨k4, 0, none⟩), x 5, .nilIface, .int .i32 (c : Int), .int .i32 (c : Int), .int .i64 (st : Int), .pointer (some ⟨g, 0, none⟩), x 11, x 12, x 13, x 14, x 15, x 16, x 17, x 18, x 19, x 20, x 21, x 22, x 23, x 24, x 25, x 26, x 27, x 28, x 29, x 30, x 31, x 32, x 33, x 34, x 35, x 36, x 37, x 38, x 39, x 40, x 41, x 42, x 43, x 44, x 45, x 46, x 47, x 48, x 49, x 50, x 51, x 52, x 53, x 54, x 55, x 56, x 57, x 58, x 59, x 60, x 61, x 62, x 63, x 64, x 65, x 66, x 67, x 68, x 69, x 70, x 71, x 72, x 73, x 74, x 75, x 76, x 77, x 78, x 79, x 80, x 81, x 82, x 83, x 84, x 85, x 86, x 87, x 88, x 89, x 90, x 91, x 92, x 93, x 94, x 95, x 96, x 97, x 98, x 99, x 100, x 101, x 102, x 103, x 104, x 105, x 106, x 107, x 108, x 109, x 110, x 111, x 112, x 113, x 114, x 115, x 116, x 117, x 118, x 119, x 120, x 121, x 122, x 123, x 124, x 125, x 126, x 127, x 128, x 129, x 130, x 131, x 132, x 133, x 134, x 135, x 136, x 137, x 138, x 139, x 140, x 141, x 142, x 143, x 144, x 145, x 146, x 147, x 148, x 149, x 150, x 151, x 152, x 153, x 154, x 155, x 156, x 157, x 158, x 159, x 160, x 161, x 162, x 163, x 164, x 165, x 166, x 167, x 168, x 169, x 170, x 171, x 172, x 173, x 174, x 175, x 176, x 177, x 178, x 179, x 180, x 181, x 182, x 183, x 184, x 185, x 186, x 187, x 188, x 189, x 190, x 191, x 192, x 193, x 194, x 195, x 196, x 197, x 198, x 199, x 200, x 201, x 202, x 203, x 204, x 205, x 206, x 207, x 208, x 209, x 210, x 211, x 212, x 213, x 214, x 215, x 216, x 217, x 218, x 219, x 220, x 221, x 222, x 223, x 224, x 225, x 226, x 227, x 228, x 229, x 230, x 231, x 232, x 233, x 234, x 235, x 236, x 237, x 238, x 239, x 240, x 241, x 242, x 243, x 244, x 245, x 246, x 247, x 248, x 249, x 250, x 251, x 252, x 253, x 254, x 255, x 256, x 257, x 258, x 259, x 260, x 261, x 262, x 263, x 264, x 265, x 266, x 267, x 268, x 269, x 270, x 271, x 272, x 273, x 274, x 275, x 276, x 277, x 278, x 279, x 280, x 281, x 282, x 283, x 284, x 285, x 286, x 287, x 288, x 289, x 290, x 291, x 292, x 293, x 294, x 295, x 296, x 297, x 298, x 299, x 300, x 301, x 302, x 303, x 304, x 305, x 306, x 307, x 308, x 309, x 310, x 311, x 312, x 313, x 314, x 315, x 316, x 317, x 318, x 319, x 320, x 321, x 322, x 323, x 324, x 325, x 326, x 327, x 328, x 329, x 330, x 331, x 332, x 333, x 334, x 335, x 336, x 337, x 338, x 339, x 340, x 341, x 342, x 343, x 344, x 345, x 346, x 347, x 348, x 349, x 350, x 351, x 352, x 353, x 354, x 355, x 356, x 357, x 358, x 359, x 360, x 361, x 362, x 363, x 364, x 365, x 366, x 367, x 368, x 369, x 370, x 371, x 372, x 373, x 374, x 375, x 376, x 377, x 378, x 379, x 380, x 381, x 382, x 383, x 384, x 385, x 386, x 387, x 388]) : C a := by
  obtain ⟨x, rfl⟩ := lit389 a h.sz
  have h2 : x 2 = _ := Option.some.inj h.s2
  have h3 : x 3 = _ := Option.some.inj h.s3
  have h4 : x 4 = _ := Option.some.inj h.s4
  have h6 : x 6 = _ := Option.some.inj h.s6
  have h7 : x 7 = _ := Option.some.inj h.s7
  have h8 : x 8 = _ := Option.some.inj h.s8
  have h9 : x 9 = _ := Option.some.inj h.s9
  have h10 : x 10 = _ := Option.some.inj h.s10
  rw [h2, h3, h4, h6, h7, h8, h9, h10]
  exact hx x
theorem gr_close (F : Interp) (B b ls k3 k4 g : Nat) (s : ByteArray) (eof : Value) (acc : List UInt8) (m : Int) (c st : Nat) (w0 w : World) (j : Nat) (ga : List UInt8) (K : Act → World → Prop) (Q : Exit → Act → World → Prop) (hC : GC F B b ls k3 k4 s eof acc st w0) (hG : GS ls s w0 g j ga w) (h41 : (nx s j).1 = 41)
    (hx : ∀ a w', GF m k3 k4 g c st a → GS ls s w0 g j ga w' → Q (.exit 1) ⟨a, []⟩ w') (a : Array Value) (hF : GF m k3 k4 g c st a) :
    Code.wp Tryz.prog gBody (Exit.then K Q) ⟨a, []⟩ w := by
  refine hF.open (C := fun a => Code.wp Tryz.prog gBody (Exit.then K Q) ⟨a, []⟩ w) fun x => ?_
  clear hF a
  have HC := Lib.hid hC
  have HG := Lib.hid hG
  have hs42 := hC.st.base.hs
  have hi := hG.hi
  have hgl := hG.gl
  have hroom := hG.room hC
  have hsz := hG.kp.size
  obtain ⟨hj0, hj1, hj2⟩ := nx_le s j hG.hi
  obtain ⟨e3, e4, e1, e0⟩ := (hG.st hC).cells
  have HX := Lib.hid hx
  have HPK := Lib.hid (peekNext_any ls s j w hG.L hG.hi (by omega) (hG.st hC).base.T)
  rw [h41] at HPK
  clear hC hG hx h41 hj0 hj1 hj2
  conv => arg 2; whnf
  go_wp2_with fail
  refine HPK.out.mono ?_
  rintro e w1 ⟨rfl, hb1⟩
  have HG1 := Lib.hid (HG.out.below hb1)
  clear hb1 HG HPK e3 e4 e1 e0
  go_wp2_with fail
  exact HX.out _ _ ⟨rfl, rfl, rfl, rfl, rfl, rfl, rfl, rfl, rfl⟩ HG1.out
theorem gr_bar (F : Interp) (B b ls k3 k4 g : Nat) (s : ByteArray) (eof : Value) (acc : List UInt8) (m : Int) (c st : Nat) (w0 w : World) (j : Nat) (ga : List UInt8) (K : Act → World → Prop) (Q : Exit → Act → World → Prop) (hC : GC F B b ls k3 k4 s eof acc st w0) (hG : GS ls s w0 g j ga w) (h124 : (nx s j).1 = 124)
    (hx : ∀ a w', GF m k3 k4 g c st a → GS ls s w0 g (nx s j).2 (ga ++ [124]) w' → K ⟨a, []⟩ w') (a : Array Value) (hF : GF m k3 k4 g c st a) :
    Code.wp Tryz.prog gBody (Exit.then K Q) ⟨a, []⟩ w := by
  refine hF.open (C := fun a => Code.wp Tryz.prog gBody (Exit.then K Q) ⟨a, []⟩ w) fun x => ?_
  clear hF a
  have HC := Lib.hid hC
  have HG := Lib.hid hG
  have hs42 := hC.st.base.hs
  have hi := hG.hi
  have hgl := hG.gl
  have hroom := hG.room hC
  have hsz := hG.kp.size
  obtain ⟨hj0, hj1, hj2⟩ := nx_le s j hG.hi
  obtain ⟨e3, e4, e1, e0⟩ := (hG.st hC).cells
  have HX := Lib.hid hx
  obtain ⟨hq1, hq2⟩ := nx_adv s j (by omega)
  have HPK := Lib.hid (peekNext_any ls s j w hG.L hG.hi (by omega) (hG.st hC).base.T)
  rw [h124] at HPK
  have H124 := Lib.hid h124
  clear hC hG hx h124
  conv => arg 2; whnf
  go_wp2_with fail
  refine HPK.out.mono ?_
  rintro e w1 ⟨rfl, hb1⟩
  have hG1 := HG.out.below hb1
  obtain ⟨f3, f4, f1, f0⟩ := (hG1.st HC.out).cells
  have HN := Lib.hid (next_any ls s j w1 hG1.L hG1.hi (by omega) (hG1.st HC.out).base.T)
  rw [H124.out] at HN
  have HG1 := Lib.hid hG1
  clear hb1 HG HPK e3 e4 e1 e0 hG1
  go_wp2_with fail
  refine HN.out.mono ?_
  rintro e w2 ⟨rfl, hL, hk⟩
  have hG2 := HG1.out.lex hL hj1 hj0 hk
  have HW := Lib.hid (writeRune_any w0.heap.size g (Lib.byteCells ga) 124 (by omega) (by omega) w2 hG2.Bg (by omega) hG2.kp.size)
  have HG2 := Lib.hid hG2
  clear hL hk HN HG1 f3 f4 f1 f0 hG2
  go_wp2_with fail
  refine HW.out.mono ?_
  rintro e w3 ⟨rfl, hB3, hf3⟩
  have HG3 := Lib.hid (HG2.out.write (out := [124]) hB3 hf3 (by simp only [List.length_cons, List.length_nil]; omega))
  clear hB3 hf3 HG2 HW
  go_wp2_with fail
  exact HX.out _ _ ⟨rfl, rfl, rfl, rfl, rfl, rfl, rfl, rfl, rfl⟩ HG3.out
theorem gr_end (F : Interp) (B b ls k3 k4 g : Nat) (s : ByteArray) (eof : Value) (acc : List UInt8) (m : Int) (c st : Nat) (w0 w : World) (j : Nat) (ga : List UInt8) (K : Act → World → Prop) (Q : Exit → Act → World → Prop) (hC : GC F B b ls k3 k4 s eof acc st w0) (hG : GS ls s w0 g j ga w) (h0 : (nx s j).1 = 0)
    (hx : ∀ a w', GF m k3 k4 g c st a → Lx ls s (st + 1) w' → Kp (· = ls) w0 w' → Q (.exit 0) ⟨a, []⟩ w') (a : Array Value) (hF : GF m k3 k4 g c st a) :
    Code.wp Tryz.prog gBody (Exit.then K Q) ⟨a, []⟩ w := by
  refine hF.open (C := fun a => Code.wp Tryz.prog gBody (Exit.then K Q) ⟨a, []⟩ w) fun x => ?_
  clear hF a
  have HC := Lib.hid hC
  have HG := Lib.hid hG
  have hs42 := hC.st.base.hs
  have hi := hG.hi
  have hgl := hG.gl
  have hroom := hG.room hC
  have hsz := hG.kp.size
  obtain ⟨hj0, hj1, hj2⟩ := nx_le s j hG.hi
  obtain ⟨e3, e4, e1, e0⟩ := (hG.st hC).cells
  have HX := Lib.hid hx
  have hst1 := hC.st.hi
  have HPK := Lib.hid (peekNext_any ls s j w hG.L hG.hi (by omega) (hG.st hC).base.T)
  rw [h0] at HPK
  clear hC hG hx h0 hj0 hj1 hj2
  conv => arg 2; whnf
  go_wp2_with fail
  refine HPK.out.mono ?_
  rintro e w1 ⟨rfl, hb1⟩
  have hG1 := HG.out.below hb1
  obtain ⟨f3, f4, f1, f0⟩ := (hG1.st HC.out).cells
  have ffz := (cells_of hG1.L).2.2.1
  have HL : Hid (Lx ls s (st + 1) (w1.setCell ⟨ls, 1, none⟩ (.int .i64 ((st : Int) + 1)))) := Lib.hid (by have := hG1.L.set (j := st + 1); simpa using this)
  have HKP : Hid (Kp (· = ls) w0 (w1.setCell ⟨ls, 1, none⟩ (.int .i64 ((st : Int) + 1)))) := Lib.hid (hG1.kp.lsls (Kp.setls _))
  clear hb1 HG HPK e3 e4 e1 e0 hG1
  go_wp2_with fail
  exact HX.out _ _ ⟨rfl, rfl, rfl, rfl, rfl, rfl, rfl, rfl, rfl⟩ HL.out HKP.out
theorem gr_rec0 (F : Interp) (B b ls k3 k4 g : Nat) (s : ByteArray) (eof : Value) (acc : List UInt8) (m : Int) (c st : Nat) (w0 w : World) (j : Nat) (ga : List UInt8) (md : Md) (f : Nat) (K : Act → World → Prop) (Q : Exit → Act → World → Prop) (hC : GC F B b ls k3 k4 s eof acc st w0) (hG : GS ls s w0 g j ga w) (h41 : (nx s j).1 ≠ 41) (h124 : (nx s j).1 ≠ 124) (h0 : (nx s j).1 ≠ 0)
    (ih : NIH F ls s eof m md f) (hfu : s.size < f + j) (he : (next md s f j).err = 0)
    (hx : ∀ a w', GF m k3 k4 g c st a → GS ls s w0 g (next md s f j).i (ga ++ (next md s f j).out) w' → K ⟨a, []⟩ w') (a : Array Value) (hF : GF m k3 k4 g c st a) :
    Code.wp Tryz.prog gBody (Exit.then K Q) ⟨a, []⟩ w := by
  refine hF.open (C := fun a => Code.wp Tryz.prog gBody (Exit.then K Q) ⟨a, []⟩ w) fun x => ?_
  clear hF a
  have HC := Lib.hid hC
  have HG := Lib.hid hG
  have hs42 := hC.st.base.hs
  have hi := hG.hi
  have hgl := hG.gl
  have hroom := hG.room hC
  have hsz := hG.kp.size
  obtain ⟨hj0, hj1, hj2⟩ := nx_le s j hG.hi
  obtain ⟨e3, e4, e1, e0⟩ := (hG.st hC).cells
  have HX := Lib.hid hx
  have hgd := (next_good md s f j hG.hi hfu).2 h0
  have hgd2 := hgd.2 (by omega)
  have b41 : (((nx s j).1 : Int) == 41) = false := by rw [beq_eq_false_iff_ne]; omega
  have b124 : (((nx s j).1 : Int) == 124) = false := by rw [beq_eq_false_iff_ne]; omega
  have b0 : (((nx s j).1 : Int) == 0) = false := by rw [beq_eq_false_iff_ne]; omega
  have HPK := Lib.hid (peekNext_any ls s j w hG.L hG.hi (by omega) (hG.st hC).base.T)
  have HIH := Lib.hid (fun w1 (hp : Pre F w0.heap.size g ls s eof j ga w1) => ih w0.heap.size g j ga w1 hp hfu)
  have HE := Lib.hid he
  clear hC hG hx h0 h41 h124 he ih hgd
  generalize next md s f j = r at *
  conv => arg 2; whnf
  go_wp2_with fail
  refine HPK.out.mono ?_
  rintro e w1 ⟨rfl, hb1⟩
  have hG1 := HG.out.below hb1
  obtain ⟨f3, f4, f1, f0⟩ := (hG1.st HC.out).cells
  have HG1 := Lib.hid hG1
  clear hb1 HG HPK e3 e4 e1 e0 hG1
  go_wp2_with fail
  refine (HIH.out _ (HG1.out.pre HC.out)).mono ?_
  rintro e w2 ⟨hL, hB, hk, v, rfl, hv⟩
  obtain rfl : v = .nilIface := hv.1 HE.out
  have HG2 := Lib.hid (HG1.out.call hL hB hk hgd2.2.1 (by rw [List.length_append]; omega))
  clear hL hB hk hv HG1 HIH HE f3 f4 f1 f0
  go_wp2_with fail
  exact HX.out _ _ ⟨rfl, rfl, rfl, rfl, rfl, rfl, rfl, rfl, rfl⟩ HG2.out
theorem gr_recE (F : Interp) (B b ls k3 k4 g : Nat) (s : ByteArray) (eof : Value) (acc : List UInt8) (m : Int) (c st : Nat) (w0 w : World) (j : Nat) (ga : List UInt8) (md : Md) (f : Nat) (K : Act → World → Prop) (Q : Exit → Act → World → Prop) (hC : GC F B b ls k3 k4 s eof acc st w0) (hG : GS ls s w0 g j ga w) (h41 : (nx s j).1 ≠ 41) (h124 : (nx s j).1 ≠ 124) (h0 : (nx s j).1 ≠ 0)
    (ih : NIH F ls s eof m md f) (hfu : s.size < f + j) (he : (next md s f j).err = 2 ∨ (next md s f j).err = 3)
    (hx : ∀ (a : Array Value) w' v, a.size = 389 → a[6]? = some v → Lx ls s (next md s f j).i w' → Kp (· = ls) w0 w' → ErrIs eof (next md s f j) w' v → Q .ret ⟨a, []⟩ w') (a : Array Value) (hF : GF m k3 k4 g c st a) :
    Code.wp Tryz.prog gBody (Exit.then K Q) ⟨a, []⟩ w := by
  refine hF.open (C := fun a => Code.wp Tryz.prog gBody (Exit.then K Q) ⟨a, []⟩ w) fun x => ?_
  clear hF a
  have HC := Lib.hid hC
  have HG := Lib.hid hG
  have hs42 := hC.st.base.hs
  have hi := hG.hi
  have hgl := hG.gl
  have hroom := hG.room hC
  have hsz := hG.kp.size
  obtain ⟨hj0, hj1, hj2⟩ := nx_le s j hG.hi
  obtain ⟨e3, e4, e1, e0⟩ := (hG.st hC).cells
  have HX := Lib.hid hx
  have b41 : (((nx s j).1 : Int) == 41) = false := by rw [beq_eq_false_iff_ne]; omega
  have b124 : (((nx s j).1 : Int) == 124) = false := by rw [beq_eq_false_iff_ne]; omega
  have b0 : (((nx s j).1 : Int) == 0) = false := by rw [beq_eq_false_iff_ne]; omega
  have HPK := Lib.hid (peekNext_any ls s j w hG.L hG.hi (by omega) (hG.st hC).base.T)
  have HIH := Lib.hid (fun w1 (hp : Pre F w0.heap.size g ls s eof j ga w1) => ih w0.heap.size g j ga w1 hp hfu)
  have HE := Lib.hid he
  clear hC hG hx h0 h41 h124 he ih
  generalize next md s f j = r at *
  conv => arg 2; whnf
  go_wp2_with fail
  refine HPK.out.mono ?_
  rintro e w1 ⟨rfl, hb1⟩
  have hG1 := HG.out.below hb1
  obtain ⟨f3, f4, f1, f0⟩ := (hG1.st HC.out).cells
  have HG1 := Lib.hid hG1
  clear hb1 HG HPK e3 e4 e1 e0 hG1
  go_wp2_with fail
  refine (HIH.out _ (HG1.out.pre HC.out)).mono ?_
  rintro e w2 ⟨hL, hB, hk, v, rfl, hv⟩
  have HV := Lib.hid hv
  obtain ⟨tt, pp, rfl⟩ := hv.ne HE.out
  have HL := Lib.hid hL
  have HKK := Lib.hid (HG1.out.kp.subcall hk (Nat.le_refl _) HG1.out.Bg.block.1)
  clear hL hB hk hv HG1 HIH HE f3 f4 f1 f0
  go_wp2_with fail
  exact HX.out _ _ _ rfl rfl HL.out HKK.out HV.out
end Go.Proofs.YtpfgmiocdgfniaaGreatFmt
