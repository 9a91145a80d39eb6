/- Joined by pack.py: RdL, RdM, RdO, RdP, RdI, RdQ. -/
import Derived.Test.YtonifkkdokaooaaFmtP07
import Derived.Test.YtonifkkdokaooaaFmtP06
import Derived.Test.YtonifkkdokaooaaFmtP05
import Derived.Deep.Cut
/- The state of alt, and how one thing more moves it. -/
namespace Go.Proofs.YtonifkkdokaooaaFmt
open Go.RowKit
open Re (Fo)
set_option linter.unusedVariables false

theorem Kp.seq' {X Y : Nat → Prop} {a b c : World} (h : Kp X a b) (k : Kp Y b c) (hXY : ∀ i, i < a.heap.size → ¬ X i → ¬ Y i) : Kp X a c :=
  ⟨k.os.trans h.os, k.tape.trans h.tape, k.output.trans h.output, Nat.le_trans h.size k.size, fun i hi hx => (k.block i (Nat.lt_of_lt_of_le hi h.size) (hXY i hi hx)).trans (h.block i hi hx)⟩
/-- the blocks of finished nodes -/
def PA (B fb z ob g1 : Nat) (lv : Value) (g : Nat) : Prop := B ≤ g ∧ g ≠ g1 ∧ g ≠ ob ∧ g ≠ z ∧ g ≠ fb ∧ lv.ownBlock ≠ some g
structure AL (B rb fb z ob g1 c1 : Nat) (lv : Value) (r1 : Array Value) (aa ks : List Value) (s : ByteArray) (j : Nat) (fold dot : Bool) (A K : Fo) (w0 w : World) : Prop where
  r : RS rb s j true w
  f : FS fb fold dot w
  hz : w.heap[z]? = some (.cells reZ tRe (0, 0))
  ho : w.heap[ob]? = some (.cells (reC 3 noV (.slice (some ⟨g1, 0, none⟩) (A.len + 1) c1) 0 0) tRe (0, 0))
  k : Kp (· = rb) w0 w
  row : w.heap[g1]? = some (.cells r1 tRe (0, 0))
  own : w.ownsRow B tRe 132 (.slice (some ⟨g1, 0, none⟩) (A.len + 1) c1) (A.len + 1) (aa ++ (reC 2 noV lv 0 0).toList)
  ol : w.ownsRow B tRe 132 lv K.len ks
  fa : FoC (PA B fb z ob g1 lv) w A aa
  fk : FoC (PA B fb z ob g1 lv) w K ks
  sg : g1 ≠ ob ∧ g1 ≠ z ∧ g1 ≠ fb
  sl : ∀ p, lv.ownBlock = some p → p ≠ g1 ∧ p ≠ ob ∧ p ≠ z ∧ p ≠ fb
  sb : rb < B ∧ B ≤ fb ∧ B ≤ z ∧ B ≤ ob ∧ w0.heap.size = B
  ne : z ≠ ob
theorem ownsRow_form {w : World} {B : Nat} {e : TypeId} {sz n : Nat} {lv : Value} {ks : List Value} (h : w.ownsRow B e sz lv n ks) : ∃ la lc, lv = .slice la n lc ∧ ∀ p, la = some p → B ≤ p.block ∧ p.block < w.heap.size := by
  rcases h.2 with ⟨rfl, rfl⟩ | ⟨g, cap, cur, rfl, hb, hg, _⟩
  · exact ⟨none, 0, rfl, fun p hp => by cases hp⟩
  · exact ⟨_, cap, rfl, fun p hp => by cases hp; exact ⟨hb, (Array.getElem?_eq_some_iff.1 hg).1⟩⟩
theorem reC_129 (k : Int) (set : List Value) (kv : Value) (l m : Int) (h : set.length = 128) : (reC k set kv l m)[129]? = some kv := by
  simp [reC, h]
/-- the last list's kids in their row -/
theorem AL.last {B rb fb z ob g1 c1 : Nat} {lv : Value} {r1 : Array Value} {aa ks : List Value} {s : ByteArray} {j : Nat} {fold dot : Bool} {A K : Fo} {w0 w : World} (h : AL B rb fb z ob g1 c1 lv r1 aa ks s j fold dot A K w0 w) :
    r1.toList.take ((A.len + 1) * 132) = aa ++ (reC 2 noV lv 0 0).toList ∧ aa.length = A.len * 132 ∧ (A.len + 1) * 132 ≤ r1.size ∧ r1[A.len * 132 + 129]? = some lv ∧ B ≤ g1 := by
  have hal := h.fa.length
  rcases h.own.2 with ⟨h0, _⟩ | ⟨g', cap', cur, hv, hb, hg, hc1, hc2, hsz, ht⟩
  · cases h0
  · cases hv
    have e : cur = r1 := by
      have := hg.symm.trans h.row
      simp only [Option.some.injEq, Obj.cells.injEq, and_true] at this
      exact this
    subst e
    have hs : (A.len + 1) * 132 ≤ cur.size := by rw [hsz]; exact Nat.mul_le_mul_right 132 hc1
    refine ⟨ht, hal, hs, ?_, hb⟩
    have h1 : (cur.toList.take ((A.len + 1) * 132))[A.len * 132 + 129]? = some lv := by
      rw [ht, List.getElem?_append_right (by omega), hal, show A.len * 132 + 129 - A.len * 132 = 129 from by omega]
      have := reC_129 2 noV lv 0 0 rfl
      rw [← this]; simp
    rw [List.getElem?_take_of_lt (by omega)] at h1
    simpa using h1
theorem set129 (aa : List Value) (lv nv : Value) (n : Nat) (h : aa.length = n) : (aa ++ (reC 2 noV lv 0 0).toList).set (n + 129) nv = aa ++ (reC 2 noV nv 0 0).toList := by
  rw [List.set_append_right _ _ (by omega), h, show n + 129 - n = 129 from by omega]
  rfl
theorem AL.item {B rb fb z ob g1 c1 g cap lc : Nat} {la : Option Addr} {r1 c' : Array Value} {aa ks : List Value} {s : ByteArray} {j j2 : Nat} {fold dot f2 d2 : Bool} {A K : Fo} {w0 w W w4 : World} {k : Nat} {set : List Bool} {kids : Fo} {l m : Int}
    (h : AL B rb fb z ob g1 c1 (.slice la K.len lc) r1 aa ks s j fold dot A K w0 w) (hn : Nd (fun g => w.heap.size ≤ g) W k set kids l m c') (hr : RS rb s j2 true W) (hf : FS fb f2 d2 W) (hk : Kp (XR rb fb) w W)
    (h4 : A4 W w4 B g1 (A.len * 132) g K.len cap la ks c' r1) :
    AL B rb fb z ob g1 c1 (.slice (some ⟨g, 0, none⟩) (K.len + 1) cap) (r1.setIfInBounds (A.len * 132 + 129) (.slice (some ⟨g, 0, none⟩) (K.len + 1) cap)) aa (ks ++ c'.toList) s j2 f2 d2 A (K.app (.cons k set kids l m .nil)) w0 w4 := by
  obtain ⟨hl1, hl2, hl3, hl4, hbg⟩ := h.last
  obtain ⟨sb1, sb2, sb3, sb4, sb5⟩ := h.sb
  have hlt := h.k.size
  have szk := hk.size
  have g1lt : g1 < w.heap.size := (Array.getElem?_eq_some_iff.1 h.row).1
  have zlt : z < w.heap.size := (Array.getElem?_eq_some_iff.1 h.hz).1
  have olt : ob < w.heap.size := (Array.getElem?_eq_some_iff.1 h.ho).1
  have flt : fb < w.heap.size := (Array.getElem?_eq_some_iff.1 h.f).1
  have hzf : z ≠ fb := blk_ne h.hz h.f (by decide)
  have hof : ob ≠ fb := blk_ne h.ho h.f (by decide)
  have hxr : ∀ x, B ≤ x → x ≠ fb → ¬ XR rb fb x := fun x hx hne => by rintro (e | e) <;> omega
  have hown : ∀ p, la = some p → B ≤ p.block ∧ p.block < w.heap.size := by
    obtain ⟨la', lc', e, hh⟩ := ownsRow_form h.ol
    cases e; exact hh
  have hsl : ∀ x, la.map (·.block) = some x → x ≠ g1 ∧ x ≠ ob ∧ x ≠ z ∧ x ≠ fb ∧ B ≤ x ∧ x < w.heap.size := by
    intro x hx
    cases la with
    | none => cases hx
    | some p =>
      have e : p.block = x := by simpa using hx
      subst e
      obtain ⟨a1, a2, a3, a4⟩ := h.sl p.block rfl
      exact ⟨a1, a2, a3, a4, hown p rfl⟩
  have k4 := h4.kp
  have far : ∀ x, x ≠ g1 → la.map (·.block) ≠ some x → ¬ (x = g1 ∨ la.map (·.block) = some x) := fun x a b c => c.elim a b
  have hgs : g ≠ ob ∧ g ≠ z ∧ g ≠ fb ∧ B ≤ g := by
    rcases h4.hat with e | e
    · obtain ⟨a1, a2, a3, a4, a5, a6⟩ := hsl g e; exact ⟨a2, a3, a4, a5⟩
    · omega
  have tr : ∀ x, la.map (·.block) ≠ some x → (Value.slice la K.len lc).ownBlock ≠ some x := fun x hx => by rw [ownBlock_slice]; exact hx
  have tr2 : ∀ x, (Value.slice la K.len lc).ownBlock ≠ some x → la.map (·.block) ≠ some x := fun x hx => by rw [ownBlock_slice] at hx; exact hx
  -- finished nodes are kept
  have keepA : ∀ {F : Fo} {xs : List Value}, FoC (PA B fb z ob g1 (.slice la K.len lc)) w F xs → FoC (PA B fb z ob g1 (.slice (some ⟨g, 0, none⟩) (K.len + 1) cap)) w4 F xs := by
    intro F xs hF
    have h1 : FoC (PA B fb z ob g1 (.slice la K.len lc)) W F xs := hF.kept hk (fun x hx => hxr x hx.1 hx.2.2.2.2.1)
    have h1' : FoC (fun x => PA B fb z ob g1 (.slice la K.len lc) x ∧ x < w.heap.size) w F xs := hF.mono (fun x hx hl => ⟨hx, hl⟩)
    have h2 : FoC (fun x => PA B fb z ob g1 (.slice la K.len lc) x ∧ x < w.heap.size) W F xs := h1'.kept hk (fun x hx => hxr x hx.1.1 hx.1.2.2.2.2.1)
    have h3 := h2.kept k4 (fun x hx => far x hx.1.2.1 (tr2 x hx.1.2.2.2.2.2))
    refine h3.mono (fun x hx _ => ⟨hx.1.1, hx.1.2.1, hx.1.2.2.1, hx.1.2.2.2.1, hx.1.2.2.2.2.1, ?_⟩)
    intro e
    have e : g = x := by simpa [Value.ownBlock] using e
    subst e
    rcases h4.hat with e | e
    · exact tr2 g hx.1.2.2.2.2.2 e
    · omega
  have nd : FoC (PA B fb z ob g1 (.slice (some ⟨g, 0, none⟩) (K.len + 1) cap)) w4 (.cons k set kids l m .nil) c'.toList := by
    have h1 : FoC (fun x => w.heap.size ≤ x ∧ x < W.heap.size) W _ _ := hn.foC.mono (fun x hx hl => ⟨hx, hl⟩)
    have h2 := h1.kept k4 (fun x hx => far x (by omega) (fun e => by have := (hsl x e).2.2.2.2.2; omega))
    refine h2.mono (fun x hx _ => ⟨by omega, by omega, by omega, by omega, by omega, ?_⟩)
    intro e
    have e : g = x := by simpa [Value.ownBlock] using e
    subst e
    rcases h4.hat with e | e
    · have := (hsl g e).2.2.2.2.2; omega
    · omega
  have krb : rb < w.heap.size := by omega
  refine ⟨?_, ?_, ?_, ?_, ?_, h4.row, ?_, ?_, keepA h.fa, (keepA h.fk).app nd, h.sg, ?_, h.sb, h.ne⟩
  · exact hr.kept k4 (far rb (by omega) (fun e => by have := (hsl rb e).2.2.2.2.1; omega))
  · exact k4.heap (far fb (fun e => h.sg.2.2 e.symm) (fun e => (hsl fb e).2.2.2.1 rfl)) hf
  · exact k4.heap (far z (fun e => h.sg.2.1 e.symm) (fun e => (hsl z e).2.2.1 rfl)) (hk.heap (hxr z sb3 hzf) h.hz)
  · exact k4.heap (far ob (fun e => h.sg.1 e.symm) (fun e => (hsl ob e).2.1 rfl)) (hk.heap (hxr ob sb4 hof) h.ho)
  · refine (h.k.seq' hk (fun x hx hne => ?_)).seq' k4 (fun x hx hne => far x (by omega) (fun e => by have := (hsl x e).2.2.2.2.1; omega))
    rintro (e | e)
    · exact hne e
    · omega
  · refine ⟨?_, .inr ⟨g1, c1, _, rfl, hbg, h4.row, ?_⟩⟩
    · have := h.own.1; simpa [reC] using this
    · rcases h.own.2 with ⟨h0, _⟩ | ⟨g', cap', cur, hv, hb, hg, hc1, hc2, hsz, ht⟩
      · cases h0
      · cases hv
        have e : cur = r1 := by
          have := hg.symm.trans h.row
          simp only [Option.some.injEq, Obj.cells.injEq, and_true] at this
          exact this
        subst e
        refine ⟨hc1, hc2, by simpa using hsz, ?_⟩
        rw [Array.toList_setIfInBounds, List.take_set, ht, set129 aa _ _ _ hl2]
  · have := h4.own
    rw [Fo.len_app]
    exact this
  · intro p hp
    have e : g = p := by simpa [Value.ownBlock] using hp
    subst e
    exact ⟨h4.ne, hgs.1, hgs.2.1, hgs.2.2.1⟩
end Go.Proofs.YtonifkkdokaooaaFmt

/- Walks: alt: its test, the bar, the pointer to the last list. -/
namespace Go.Proofs.YtonifkkdokaooaaFmt
open Go.RowKit
open Re (Fo)
set_option linter.unusedVariables false

theorem fold_zip (a c : Array Value) (h : a.size = 132) (hc : c.size = 132) : Array.foldl (fun cs (x : Value × Nat) => cs.setIfInBounds x.2 x.1) a c.zipIdx 0 132 = c := by
  have h1 := fold_zip_list c.toList a [] (by simp [h, hc]) rfl
  have e : c.zipIdx.size = 132 := by simp [hc]
  have h2 : Array.foldl (fun cs (x : Value × Nat) => cs.setIfInBounds x.2 x.1) a c.zipIdx 0 132 = Array.foldl (fun cs (x : Value × Nat) => cs.setIfInBounds x.2 x.1) a c.zipIdx 0 c.zipIdx.size := by rw [e]
  rw [h2, ← Array.foldl_toList, Array.toList_zipIdx]
  simpa using h1
section
variable {B rb fb z ob g1 c1 : Nat} {lv : Value} {r1 : Array Value} {aa ks : List Value} {s : ByteArray} {j : Nat} {fold dot : Bool} {A K : Fo} {w0 w : World}
theorem AL.out (h : AL B rb fb z ob g1 c1 lv r1 aa ks s j fold dot A K w0 w) : w.cell? ⟨ob, 129, none⟩ = some (.slice (some ⟨g1, 0, none⟩) (A.len + 1) c1) ∧ w.frozen? ⟨ob, 129, none⟩ = false ∧ ob < w.heap.size := by
  refine ⟨?_, Lib.frozen_of_heap h.ho _, (Array.getElem?_eq_some_iff.1 h.ho).1⟩
  rw [Lib.cell_of_heap h.ho]; exact reC_129 3 noV _ 0 0 rfl
theorem AL.kept0 {w' : World} (h : AL B rb fb z ob g1 c1 lv r1 aa ks s j fold dot A K w0 w) {j' : Nat} (hr : RS rb s j' true w') (k : Kp (· = rb) w w') : AL B rb fb z ob g1 c1 lv r1 aa ks s j' fold dot A K w0 w' := by
  obtain ⟨sb1, sb2, sb3, sb4, sb5⟩ := h.sb
  obtain ⟨_, _, _, _, hbg⟩ := h.last
  obtain ⟨la, lc, e, hla⟩ := ownsRow_form h.ol
  refine ⟨hr, k.heap (by show ¬ fb = rb; omega) h.f, k.heap (by show ¬ z = rb; omega) h.hz, k.heap (by show ¬ ob = rb; omega) h.ho, h.k.trans k, k.heap (by show ¬ g1 = rb; omega) h.row, ?_, ?_, h.fa.kept k (fun x hx => by have := hx.1; show ¬ x = rb; omega), h.fk.kept k (fun x hx => by have := hx.1; show ¬ x = rb; omega), h.sg, h.sl, h.sb, h.ne⟩
  · exact ownsRow_kept h.own k (by show ¬ g1 = rb; omega)
  · rw [e]; exact ownK (e ▸ h.ol) k (fun p hp => by have := (hla p hp).1; show ¬ p.block = rb; omega)
end
set_option maxHeartbeats 4000000 in
set_option maxRecDepth 100000 in
theorem al34_no (rb fb z ob : Nat) (s : ByteArray) (j : Nat) (c : UInt8) (r : List UInt8) (w : World) (Q : Exit → Act → World → Prop) (a : Array Value) (v6 : Value) (hF : AF rb fb z ob a) (h6 : a[6]? = some v6)
    (hr : RS rb s j true w) (hs : s.size ≤ 4611686018427387904) (hm : Rm s j (c :: r)) (hc : UInt8.ofNat 124 ≠ c) (hQ : ∀ n a', AF rb fb z ob a' → a'[6]? = some v6 → Q .normal ⟨a', []⟩ (w.drewN n)) : Code.wp Tryf.prog al34 Q ⟨a, []⟩ w := by
  refine AF.open (C := fun a => Code.wp Tryf.prog al34 Q ⟨a, []⟩ w) hF h6 fun x => ?_
  have HQ := Lib.hid hQ
  have P := Lib.hid (pre_no (l := []) (r := r) hc)
  have HR := Lib.hid hr
  have HM := Lib.hid hm
  clear hQ hF h6 hr hm
  simp only [al34, alI, alL, alB, Tryf.f24, Option.getD_some, lq1, lq2, lbl, llo]
  go_wp2_with fail
  refine (skip_f rb s _ j true _ _ HR.out hs (by decide) HM.out P.out).mono ?_
  rintro e w1 ⟨rfl, n, rfl⟩
  go_wp2_with fail
  exact HQ.out n _ ⟨rfl, rfl, rfl, rfl, rfl⟩ rfl
set_option maxHeartbeats 4000000 in
set_option maxRecDepth 100000 in
theorem al5_walk (rb fb z ob g1 c1 n : Nat) (w : World) (Q : Exit → Act → World → Prop) (a : Array Value) (v6 : Value) (hF : AF rb fb z ob a) (h6 : a[6]? = some v6)
    (ho : w.cell? ⟨ob, 129, none⟩ = some (.slice (some ⟨g1, 0, none⟩) (n + 1) c1)) (hn : n ≤ 549755813888) (hQ : ∀ a', AF rb fb z ob a' → a'[6]? = some (.pointer (some ⟨g1, n * 132, none⟩)) → Q .normal ⟨a', []⟩ w) : Code.wp Tryf.prog al5 Q ⟨a, []⟩ w := by
  refine AF.open (C := fun a => Code.wp Tryf.prog al5 Q ⟨a, []⟩ w) hF h6 fun x => ?_
  have HQ := Lib.hid hQ
  have n0 : (0 : Int) ≤ (n : Int) := by omega
  have n1 : (n : Int) < (n : Int) + 1 := by omega
  have nw : ((n + 1 : Nat) : Int) - 1 = (n : Int) := by omega
  have nw2 : (n : Int) + 1 - 1 = (n : Int) := by omega
  clear hQ hF h6
  simp only [al5, alI, alL, alB, Tryf.f24, Option.getD_some, lq1, lq2, lbl, llo]
  go_wp2_with fail
  exact HQ.out _ ⟨rfl, rfl, rfl, rfl, rfl⟩ rfl
set_option maxHeartbeats 4000000 in
set_option maxRecDepth 100000 in
theorem al2_end (rb fb z ob : Nat) (s : ByteArray) (j : Nat) (w : World) (Q : Exit → Act → World → Prop) (a : Array Value) (v6 : Value) (hF : AF rb fb z ob a) (h6 : a[6]? = some v6)
    (hr : RS rb s j true w) (hm : Rm s j []) (hQ : ∀ n a', AF rb fb z ob a' → Q (.exit 0) ⟨a', []⟩ (w.drewN n)) : Code.wp Tryf.prog al2 Q ⟨a, []⟩ w := by
  refine AF.open (C := fun a => Code.wp Tryf.prog al2 Q ⟨a, []⟩ w) hF h6 fun x => ?_
  have hsz := hm.size
  have hlt : decide ((j : Int) < (s.size : Int)) = false := by simp at hsz ⊢; omega
  have HM : Hid (∀ w, RS rb s j true w → Calls Tryf.prog 34 #[.pointer (some ⟨rb, 0, none⟩)] w fun e w' => e = .returned (.bool false) ∧ ∃ n, w' = w.drewN n) := Lib.hid fun w h => by
    have := more_any rb s j true w h
    rw [hlt] at this
    exact this
  have HQ := Lib.hid hQ
  have HR := Lib.hid hr
  clear hQ hF h6 hr hm hsz hlt
  simp only [al2, alL, alB, Tryf.f24, Option.getD_some, lq1, lq2, lbl, llo]
  go_wp2
  go_quiet ((go_at_call 34; refine (HM.out _ (HR.out.drew _)).mono ?_; rintro e w' ⟨h1, n, h2⟩; exact ⟨h1, _, by rw [h2, World.drewN_drewN]⟩))
  go_wp2
  refine HQ.out nq _ ?_
  exact ⟨rfl, rfl, rfl, rfl, rfl⟩
set_option maxHeartbeats 4000000 in
set_option maxRecDepth 100000 in
theorem al2_par (rb fb z ob : Nat) (s : ByteArray) (j : Nat) (r : List UInt8) (w : World) (Q : Exit → Act → World → Prop) (a : Array Value) (v6 : Value) (hF : AF rb fb z ob a) (h6 : a[6]? = some v6)
    (hr : RS rb s j true w) (hm : Rm s j (UInt8.ofNat 41 :: r)) (hQ : ∀ n a', AF rb fb z ob a' → Q (.exit 0) ⟨a', []⟩ (w.drewN n)) : Code.wp Tryf.prog al2 Q ⟨a, []⟩ w := by
  refine AF.open (C := fun a => Code.wp Tryf.prog al2 Q ⟨a, []⟩ w) hF h6 fun x => ?_
  obtain ⟨hi, hat⟩ := hm.at
  obtain ⟨c0, c1, c2, _, _, _⟩ := hr.cells
  have hlt : decide ((j : Int) < (s.size : Int)) = true := by simp; omega
  have HM : Hid (∀ w, RS rb s j true w → Calls Tryf.prog 34 #[.pointer (some ⟨rb, 0, none⟩)] w fun e w' => e = .returned (.bool true) ∧ ∃ n, w' = w.drewN n) := Lib.hid fun w h => by
    have := more_any rb s j true w h
    rw [hlt] at this
    exact this
  have hsi : (((s[j]'hi).toNat : Nat) : Int) = 41 := by rw [hat]; rfl
  have HQ := Lib.hid hQ
  have HR := Lib.hid hr
  clear hQ hF h6 hr hm hlt hat
  simp only [al2, alL, alB, Tryf.f24, Option.getD_some, lq1, lq2, lbl, llo]
  go_wp2
  go_quiet ((go_at_call 34; refine (HM.out _ (HR.out.drew _)).mono ?_; rintro e w' ⟨h1, n, h2⟩; exact ⟨h1, _, by rw [h2, World.drewN_drewN]⟩))
  go_wp2
  refine HQ.out nq _ ?_
  exact ⟨rfl, rfl, rfl, rfl, rfl⟩
set_option maxHeartbeats 4000000 in
set_option maxRecDepth 100000 in
theorem al2_yes (rb fb z ob : Nat) (s : ByteArray) (j : Nat) (c : UInt8) (r : List UInt8) (w : World) (Q : Exit → Act → World → Prop) (a : Array Value) (v6 : Value) (hF : AF rb fb z ob a) (h6 : a[6]? = some v6)
    (hr : RS rb s j true w) (hm : Rm s j (c :: r)) (hc : c ≠ UInt8.ofNat 41) (hQ : ∀ n a', AF rb fb z ob a' → a'[6]? = some v6 → Q .normal ⟨a', []⟩ (w.drewN n)) : Code.wp Tryf.prog al2 Q ⟨a, []⟩ w := by
  refine AF.open (C := fun a => Code.wp Tryf.prog al2 Q ⟨a, []⟩ w) hF h6 fun x => ?_
  obtain ⟨hi, hat⟩ := hm.at
  obtain ⟨c0, c1, c2, _, _, _⟩ := hr.cells
  have hlt : decide ((j : Int) < (s.size : Int)) = true := by simp; omega
  have HM : Hid (∀ w, RS rb s j true w → Calls Tryf.prog 34 #[.pointer (some ⟨rb, 0, none⟩)] w fun e w' => e = .returned (.bool true) ∧ ∃ n, w' = w.drewN n) := Lib.hid fun w h => by
    have := more_any rb s j true w h
    rw [hlt] at this
    exact this
  have hsi : (((s[j]'hi).toNat : Nat) : Int) = (c.toNat : Int) := by rw [hat]
  have hne : ((c.toNat : Int) == 41) = false := by
    rw [beq_eq_false_iff_ne]
    intro e
    apply hc
    apply UInt8.toNat_inj.1
    show c.toNat = 41
    omega
  have hne2 : ((c.toNat : Int) != 41) = true := by rw [bne, hne]; rfl
  have HQ := Lib.hid hQ
  have HR := Lib.hid hr
  clear hQ hF h6 hr hm hlt hat hc
  simp only [al2, alL, alB, Tryf.f24, Option.getD_some, lq1, lq2, lbl, llo]
  go_wp2
  go_quiet ((go_at_call 34; refine (HM.out _ (HR.out.drew _)).mono ?_; rintro e w' ⟨h1, n, h2⟩; exact ⟨h1, _, by rw [h2, World.drewN_drewN]⟩))
  go_wp2
  exact HQ.out nq _ ⟨rfl, rfl, rfl, rfl, rfl⟩ rfl
end Go.Proofs.YtonifkkdokaooaaFmt

/- Walks: alt: the bar. -/
namespace Go.Proofs.YtonifkkdokaooaaFmt
open Go.RowKit
open Re (Fo)
set_option linter.unusedVariables false

theorem agg_of {v : Value} (h : v.cells.size = 132) : v = .agg v.cells := by
  cases v <;> first | rfl | (simp [Value.cells] at h)
theorem wp_bsT (d : Tmp) (ty : TypeId) (pos : String) (aft : Array Edge) (g : Option (Nat × Bool)) (a : Act) (w : World) (K : Act → World → Prop) (Q : Exit → Act → World → Prop) (x : Operand) (h : (a.eval x).cells.size = 132) :
    Oper.wp Tryf.prog ⟨some d, .buildSlice 27 1 #[(0, x)], ty, pos, aft, g⟩ a w K Q = K (a.put (some d) (.slice (some ⟨w.heap.size, 0, none⟩) 1 1)) (w.alloc (.cells (a.eval x).cells tRe)) := by
  unfold Oper.wp execOp
  have e : Array.map (fun x : Nat × Operand => (x.fst, a.eval x.snd)) #[(0, x)] = #[(0, .agg (a.eval x).cells)] := by
    have := agg_of h
    simp only [List.map_toArray, List.map_cons, List.map_nil]
    rw [← this]
  simp only [Sem.run_bind, e, run_bs w _ h, Result.andThen_ok, Sem.run_pure, Oper.upon_value]
/-- behind a bar: one list more -/
structure B4 (w w4 : World) (B ob g1 g n cap : Nat) (lv : Value) (aa : List Value) : Prop where
  own : w4.ownsRow B tRe 132 (.slice (some ⟨g, 0, none⟩) (n + 1 + 1) cap) (n + 1 + 1) ((aa ++ (reC 2 noV lv 0 0).toList) ++ (reC 2 noV (.slice none 0 0) 0 0).toList)
  row : w4.heap[ob]? = some (.cells (reC 3 noV (.slice (some ⟨g, 0, none⟩) (n + 1 + 1) cap) 0 0) tRe (0, 0))
  kp : Kp (fun x => x = ob ∨ x = g1) w w4
  hat : g = g1 ∨ w.heap.size ≤ g
  nob : g ≠ ob
set_option maxRecDepth 100000 in
theorem news2 (w1 : World) : ∀ j u, (reC 2 noV (.slice none 0 0) 0 0).toList[j]? = some u → (w1.alloc (.cells (reZ.setIfInBounds 0 (.int .i64 2)) tRe)).cell? ((⟨w1.heap.size, 0, none⟩ : Addr).add j) = some u :=
  World.news_of_block (cs := reC 2 noV (.slice none 0 0) 0 0) (t := tRe) (fr := (0, 0)) (heap_alloc_new w1 (.cells (reC 2 noV (.slice none 0 0) 0 0) tRe))
attribute [local go_sem ↓] wp_bsT
set_option maxHeartbeats 4000000 in
set_option maxRecDepth 100000 in
theorem al34_bar (B rb fb z ob g1 c1 n : Nat) (lv : Value) (aa : List Value) (s : ByteArray) (j : Nat) (r : List UInt8) (w : World) (Q : Exit → Act → World → Prop) (a : Array Value) (v6 : Value) (hF : AF rb fb z ob a) (h6 : a[6]? = some v6)
    (hr : RS rb s j true w) (hs : s.size ≤ 4611686018427387904) (hm : Rm s j (UInt8.ofNat 124 :: r)) (hro : w.heap[ob]? = some (.cells (reC 3 noV (.slice (some ⟨g1, 0, none⟩) (n + 1) c1) 0 0) tRe (0, 0)))
    (hown : w.ownsRow B tRe 132 (.slice (some ⟨g1, 0, none⟩) (n + 1) c1) (n + 1) (aa ++ (reC 2 noV lv 0 0).toList)) (hn : n ≤ 549755813888) (hB : B ≤ w.heap.size) (hrb : rb < B) (hob : B ≤ ob) (hgo : g1 ≠ ob)
    (hQ : ∀ w1 w4 g cap a', AF rb fb z ob a' → a'[6]? = some v6 → RS rb s (j + 1) true w1 → Kp (· = rb) w w1 → B4 w1 w4 B ob g1 g n cap lv aa → Q (.exit 1) ⟨a', []⟩ w4) : Code.wp Tryf.prog al34 Q ⟨a, []⟩ w := by
  refine AF.open (C := fun a => Code.wp Tryf.prog al34 Q ⟨a, []⟩ w) hF h6 fun x => ?_
  obtain ⟨ie, hi, hz0, hz1, hz2⟩ := info_parts infoReB
  have hbg : B ≤ g1 := by
    rcases hown.2 with ⟨h0, _⟩ | ⟨g', cap', cur, hv, hb, _⟩
    · cases h0
    · cases hv; exact hb
  have hrz : reZ.size = 132 := rfl
  have hz := zeroRe
  have HQ := Lib.hid hQ
  have HR := Lib.hid hr
  have HM := Lib.hid hm
  have HO := Lib.hid hown
  have HRO := Lib.hid hro
  clear hQ hF h6 hr hm hown hro
  simp only [al34, alI, alL, alB, Tryf.f24, Option.getD_some, lq1, lq2, lbl, llo]
  go_wp2_with fail
  refine (skip_t rb s ⟨#[124]⟩ j true _ _ HR.out hs HM.out).mono ?_
  rintro e w1 ⟨rfl, hr1, hk1⟩
  have hob1 : w1.heap[ob]? = some (.cells (reC 3 noV (.slice (some ⟨g1, 0, none⟩) (n + 1) c1) 0 0) tRe (0, 0)) := hk1.heap (by show ¬ ob = rb; omega) HRO.out
  have hown1 : w1.ownsRow B tRe 132 (.slice (some ⟨g1, 0, none⟩) (n + 1) c1) (n + 1) (aa ++ (reC 2 noV lv 0 0).toList) := ownsRow_kept HO.out hk1 (by show ¬ g1 = rb; omega)
  have o1 : w1.cell? ⟨ob, 129, none⟩ = some (.slice (some ⟨g1, 0, none⟩) (n + 1) c1) := by rw [Lib.cell_of_heap hob1]; exact reC_129 3 noV _ 0 0 rfl
  have olt : ob < w1.heap.size := (Array.getElem?_eq_some_iff.1 hob1).1
  have hB1 : B ≤ w1.heap.size := Nat.le_trans hB hk1.size
  have HR1 := Lib.hid hr1
  have HK1 := Lib.hid hk1
  have HO1 := Lib.hid hob1
  have HW1 := Lib.hid hown1
  clear hr1 hk1 hob1 hown1
  go_wp2_with (at_builtin; refine wpList_append_lies _ rfl _ _ 27 rfl B tRe ie (.agg reZ) 132 176 Tryf.underlying27 hi hz0 hz1 hz2 rfl (by decide) _ (n + 1) _ rfl (HW1.out.alloc _) ⟨w1.heap.size, 0, none⟩ 1 1 (reC 2 noV (.slice none 0 0) 0 0).toList rfl rfl (news2 w1) (oneC_reC oneC_no rfl) (by decide) (by unfold maxLen; omega) (by omega) (by simp; omega) _ rfl ?_)
  intro g cap w3 hown3 hgrow3 hat3 hlt3
  have hgo3 : g ≠ ob := by
    rcases hat3 with e | e
    · have e : g1 = g := by simpa [Value.ownBlock] using e
      omega
    · omega
  have r3 : w3.heap[ob]? = some (.cells (reC 3 noV (.slice (some ⟨g1, 0, none⟩) (n + 1) c1) 0 0) tRe (0, 0)) := by
    rw [hgrow3.block ob (by simp; omega) (fun e => by have e : ob = g1 := by simpa [Value.ownBlock] using e
                                                      omega), Lib.alloc_old _ _ _ olt]
    exact HO1.out
  have o3 : w3.cell? ⟨ob, 129, none⟩ = some (.slice (some ⟨g1, 0, none⟩) (n + 1) c1) := by rw [Lib.cell_of_heap r3]; exact reC_129 3 noV _ 0 0 rfl
  have q3 : w3.frozen? ⟨ob, 129, none⟩ = false := Lib.frozen_of_heap r3 _
  have HB4 : Hid (B4 w1 (w3.setCell ⟨ob, 129, none⟩ (.slice (some ⟨g, 0, none⟩) (n + 1 + 1) cap)) B ob g1 g n cap lv aa) := by
    refine Lib.hid ⟨?_, ?_, ?_, ?_, hgo3⟩
    · rw [List.append_assoc]; exact ownsRow_kept hown3 (Kp.setCell (X := (· = ob)) (p := ⟨ob, 129, none⟩) (Kp.refl _ _) (.inl rfl) _) hgo3
    · exact (heap_setCell_same _ _ _ _ _ _ r3).trans rfl
    · refine ((((Kp.refl (fun x => x = ob ∨ x = g1) w1).alloc _).trans ((grown_kp hgrow3).mono (fun k _ hk => .inr ?_)))).setCell (p := ⟨ob, 129, none⟩) (.inl (.inl rfl)) _
      have e : g1 = k := by simpa [Value.ownBlock] using hk
      exact e.symm
    · rcases hat3 with e | e
      · exact .inl (by have e : g1 = g := by simpa [Value.ownBlock] using e
                       exact e.symm)
      · exact .inr (by omega)
  clear hown3 hgrow3 hat3 r3
  go_wp2_with fail
  exact HQ.out w1 _ g cap _ ⟨rfl, rfl, rfl, rfl, rfl⟩ rfl HR1.out HK1.out HB4.out
end Go.Proofs.YtonifkkdokaooaaFmt

/- alt: the state behind a bar; the state at the beginning and at the end. -/
namespace Go.Proofs.YtonifkkdokaooaaFmt
open Go.RowKit
open Re (Fo)
set_option linter.unusedVariables false

theorem noV_eq : noV = Re.no128.map Value.bool := by simp [noV, Re.no128, Re.falses]
theorem Sl.of_own {w : World} {B : Nat} {P : Nat → Prop} {v : Value} {n : Nat} {xs : List Value} (h : w.ownsRow B tRe 132 v n xs) (hP : ∀ g, v.ownBlock = some g → B ≤ g → P g) : Sl P w v n xs := by
  refine ⟨h.1, ?_⟩
  rcases h.2 with h0 | ⟨g, cap, cur, rfl, hb, hg, h1, h2, h3, h4⟩
  · exact .inl h0
  · exact .inr ⟨g, cap, cur, rfl, hP g rfl hb, hg, h1, h2, h3, h4⟩
section
variable {B rb fb z ob g1 c1 g cap : Nat} {lv : Value} {r1 : Array Value} {aa ks : List Value} {s : ByteArray} {j : Nat} {fold dot : Bool} {A K : Fo} {w0 w w4 : World}
theorem AL.bar (h : AL B rb fb z ob g1 c1 lv r1 aa ks s j fold dot A K w0 w) (h4 : B4 w w4 B ob g1 g A.len cap lv aa) :
    ∃ r1', AL B rb fb z ob g cap (.slice none 0 0) r1' (aa ++ (reC 2 noV lv 0 0).toList) [] s j fold dot (A.app (.cons 2 Re.no128 K 0 0 .nil)) .nil w0 w4 := by
  obtain ⟨hl1, hl2, hl3, hl4, hbg⟩ := h.last
  obtain ⟨sb1, sb2, sb3, sb4, sb5⟩ := h.sb
  have hlt := h.k.size
  have zlt : z < w.heap.size := (Array.getElem?_eq_some_iff.1 h.hz).1
  have flt : fb < w.heap.size := (Array.getElem?_eq_some_iff.1 h.f).1
  have hof : ob ≠ fb := blk_ne h.ho h.f (by decide)
  have k4 := h4.kp
  have far : ∀ x, x ≠ ob → x ≠ g1 → ¬ (x = ob ∨ x = g1) := fun x a b c => c.elim a b
  obtain ⟨la, lc, e, hla⟩ := ownsRow_form h.ol
  have hne : ∀ x, x ≠ g1 → x < w.heap.size → x ≠ g := fun x a b c => by
    subst c
    rcases h4.hat with e | e
    · exact a e
    · omega
  have keep : ∀ {F : Fo} {xs : List Value}, FoC (PA B fb z ob g1 lv) w F xs → FoC (PA B fb z ob g (.slice none 0 0)) w4 F xs := by
    intro F xs hF
    have h1 : FoC (fun x => PA B fb z ob g1 lv x ∧ x < w.heap.size) w F xs := hF.mono (fun x hx hl => ⟨hx, hl⟩)
    have h2 := h1.kept k4 (fun x hx => far x hx.1.2.2.1 hx.1.2.1)
    exact h2.mono (fun x hx _ => ⟨hx.1.1, hne x hx.1.2.1 hx.2, hx.1.2.2.1, hx.1.2.2.2.1, hx.1.2.2.2.2.1, fun e => by cases e⟩)
  have hsl : Sl (PA B fb z ob g (.slice none 0 0)) w4 lv K.len ks := by
    have h1 : Sl (fun x => (x ≠ g1 ∧ x ≠ ob ∧ x ≠ z ∧ x ≠ fb) ∧ B ≤ x ∧ x < w.heap.size) w lv K.len ks := by
      refine Sl.of_own h.ol (fun x hx hb => ⟨h.sl x hx, hb, ?_⟩)
      rw [e, ownBlock_slice] at hx
      cases la with
      | none => cases hx
      | some p => have := (hla p rfl).2; have e2 : p.block = x := by simpa using hx
                  omega
    have h2 := h1.kept k4 (fun x hx => far x hx.1.2.1 hx.1.1)
    exact h2.mono (fun x hx _ => ⟨hx.2.1, hne x hx.1.1 hx.2.2, hx.1.2.1, hx.1.2.2.1, hx.1.2.2.2, fun e => by cases e⟩)
  have hlen : (A.app (.cons 2 Re.no128 K 0 0 .nil)).len = A.len + 1 := by rw [Fo.len_app]; rfl
  have hgs : g ≠ z ∧ g ≠ fb := by
    rcases h4.hat with e | e
    · subst e; exact h.sg.2
    · omega
  obtain ⟨r1', hrow⟩ : ∃ r1', w4.heap[g]? = some (.cells r1' tRe (0, 0)) := by
    rcases h4.own.2 with ⟨h0, _⟩ | ⟨g', cap', cur, hv, hb, hg, _⟩
    · cases h0
    · cases hv; exact ⟨cur, hg⟩
  refine ⟨r1', ?_, ?_, ?_, ?_, ?_, hrow, ?_, ⟨rfl, .inl ⟨rfl, rfl⟩⟩, ?_, rfl, ⟨h4.nob, hgs.1, hgs.2⟩, ?_, h.sb, h.ne⟩
  · exact h.r.kept k4 (far rb (by omega) (by omega))
  · exact k4.heap (far fb (fun e => hof e.symm) (fun e => h.sg.2.2 e.symm)) h.f
  · exact k4.heap (far z h.ne (fun e => h.sg.2.1 e.symm)) h.hz
  · rw [hlen]; exact h4.row
  · exact h.k.seq' k4 (fun x hx hne => far x (by omega) (by omega))
  · rw [hlen]; exact h4.own
  · refine (keep h.fa).app ⟨by simp [Re.no128, Re.falses], lv, ks, [], ?_, hsl, keep h.fk, rfl⟩
    rw [← noV_eq]; simp
  · intro p hp; cases hp
end
end Go.Proofs.YtonifkkdokaooaaFmt

/- Walks: times, at a sign of how often. -/
namespace Go.Proofs.YtonifkkdokaooaaFmt
open Go.RowKit
open Re (Fo)
set_option linter.unusedVariables false

set_option maxRecDepth 100000 in
theorem reT_eq (kv : Value) (l m : Int) : ((((reZ.toList.set 0 (.int .i64 4)).set 129 kv).set 130 (.int .i64 l)).set 131 (.int .i64 m)).toArray = reC 4 noV kv l m := rfl
set_option maxRecDepth 100000 in
theorem oneC_reT (kv : Value) (h : kv.oneCell' = true) (l m : Int) : oneC ((((reZ.toList.set 0 (.int .i64 4)).set 129 kv).set 130 (.int .i64 l)).set 131 (.int .i64 m)) := oneC_reC (k := 4) (kv := kv) (l := l) (m := m) oneC_no h
theorem Tm.quant {rb : Nat} {s : ByteArray} {j : Nat} {c : Array Value} {w V : World} (h : Tm rb s j c w V) {c' : Array Value} : Tm rb s j c' w ((V.alloc (.cells c tRe)).setRow w.heap.size c') := by
  have hlt := h.lt
  have h1 := (Array.getElem?_eq_some_iff.1 h.n).1
  have h2 := (Array.getElem?_eq_some_iff.1 h.z).1
  have hnc : (V.alloc (.cells c tRe)).heap[w.heap.size]? = some (.cells c tRe (0, 0)) := by rw [Lib.alloc_old _ _ _ h1]; exact h.n
  refine ⟨?_, (h.k.alloc _).setRow (.inr (Nat.le_refl _)) _, setRow_heap _ _ _ _ _ _ hnc, ?_, hlt⟩
  · unfold RS
    rw [setRow_other _ _ _ _ (by omega)]
    exact h.r.kept ((Kp.refl (fun _ => False) V).alloc _) id
  · rw [setRow_other _ _ _ _ (by omega), Lib.alloc_old _ _ _ h2]; exact h.z
theorem Tm.row {rb : Nat} {s : ByteArray} {j : Nat} {c : Array Value} {w V : World} (h : Tm rb s j c w V) {c' : Array Value} : ((V.alloc (.cells c tRe)).setRow w.heap.size c').heap[V.heap.size]? = some (.cells c tRe (0, 0)) ∧ w.heap.size + 2 ≤ V.heap.size := by
  have h1 := (Array.getElem?_eq_some_iff.1 h.n).1
  have h2 := (Array.getElem?_eq_some_iff.1 h.z).1
  exact ⟨by rw [setRow_other _ _ _ _ (by omega)]; exact heap_alloc_new V _, by omega⟩
/-- what times leaves at a sign -/
def TqPost (rb : Nat) (s : ByteArray) (j : Nat) (c : Array Value) (l m : Int) (w : World) (e : Ending) (w' : World) : Prop :=
  ∃ g, e = .returned (.agg (reC 4 noV (.slice (some ⟨g, 0, none⟩) 1 1) l m)) ∧ w.heap.size ≤ g ∧ w'.heap[g]? = some (.cells c tRe (0, 0)) ∧ RS rb s j true w' ∧ Kp (· = rb) w w'
theorem Hd.no63 {r : List UInt8} (h : Hd r) : List.isPrefixOf [UInt8.ofNat 63] r = false := by
  rcases h with rfl | ⟨d, r', rfl, hd1, _, _, h63, _⟩
  · rfl
  · exact pre_no (l := []) (r := r') (of_ne (n := 63) hd1 (by omega) h63)
set_option maxHeartbeats 4000000 in
set_option maxRecDepth 100000 in
theorem times_star (rb : Nat) (s : ByteArray) (i : Nat) (r : List UInt8) (c : Array Value) (w : World) (h : RS rb s i true w) (hs : s.size ≤ 4611686018427387904) (hr : Rm s i (UInt8.ofNat 42 :: r)) (hd : Hd r) (hc : c.size = 132) (h1 : oneC c.toList) :
    Calls Tryf.prog 36 #[.pointer (some ⟨rb, 0, none⟩), .agg c] w (TqPost rb s (i + 1) c 0 (-1) w) := by
  have hz := zeroRe
  have hsz := hr.size
  have hsz2 := hr.tail.size
  have HT := Lib.hid (Tm.start (c := c) h)
  obtain ⟨V, hV⟩ : ∃ V, (w.alloc (.cells c tRe)).alloc (.cells reZ tRe) = V := ⟨_, rfl⟩
  rw [hV] at HT
  have HVe := Lib.hid hV
  have HC := Lib.hid hc
  have H1 := Lib.hid h1
  have hm : decide ((i : Int) < (s.size : Int)) = true := by simp at hsz ⊢; omega
  have HM := Lib.hid (more_any rb s i true)
  rw [hm] at HM
  have HR := Lib.hid hr
  have HR2 := Lib.hid hr.tail
  have N63 := Lib.hid hd.no63
  have HD := Lib.hid hd
  obtain ⟨v0, v1, v2, _, _, _⟩ := HT.out.r.cells
  clear hr hc h1 hm h hV hd
  go_enter Tryf.func36, Tryf.ntmps36
  go_wp2
  refine wp_loop_rounds 2 ?_
  rw [rounds_succ]
  go_wp2_with fail
  rw [HVe.out]
  refine (HM.out _ HT.out.r).mono ?_
  rintro e w1 ⟨rfl, n, rfl⟩
  go_wp2_with fail
  refine (skip_t rb s ⟨#[42]⟩ i true _ _ (HT.out.r.drew _) hs HR.out).mono ?_
  rintro e w1 ⟨rfl, hr1, hk1⟩
  have HT1 : Hid (Tm rb s (i + 1) c w w1) := Lib.hid ((HT.out.drew _).call hr1 hk1)
  clear hr1 hk1
  go_wp2_with fail
  refine (skip_f rb s _ (i + 1) true _ _ HT1.out.r hs (by decide) HR2.out N63.out).mono ?_
  rintro e w2 ⟨rfl, n2, rfl⟩
  have HT2 : Hid (Tm rb s (i + 1) c w (w1.drewN n2)) := Lib.hid (HT1.out.drew n2)
  obtain ⟨V2, hV2⟩ : ∃ V2, w1.drewN n2 = V2 := ⟨_, rfl⟩
  rw [hV2] at HT2
  rw [hV2]
  clear hV2
  go_upto_region 23 with fail
  refine wp_region_list ?_
  refine wpList_load_row rfl tRe _ rfl w.heap.size rfl tRe c (0, 0) _ HT2.out.n Tryf.underlying29 rfl (by rw [sizeRe, HC.out]) ?_
  refine wpList_plain rfl fun K2 hK2 => ?_
  refine wp_bs _ _ _ _ _ _ _ _ _ _ c rfl HC.out ?_
  refine hK2 _ _ ?_
  clear hK2
  go_wp2
  have hb2 : Below V2.heap.size V2 (V2.alloc (.cells c tRe)) := (Below.refl _ _).alloc (Nat.le_refl _) _
  have hnc : (V2.alloc (.cells c tRe)).heap[w.heap.size]? = some (.cells c tRe (0, 0)) := by rw [Lib.alloc_old _ _ _ (Array.getElem?_eq_some_iff.1 HT2.out.n).1]; exact HT2.out.n
  rw [storeRe _ w.heap.size c ((((reZ.toList.set 0 (.int .i64 4)).set 129 (.slice (some ⟨V2.heap.size, 0, none⟩) 1 1)).set 130 (.int .i64 0)).set 131 (.int .i64 (-1))) hnc HC.out rfl (oneC_reT _ rfl _ _), reT_eq]
  obtain ⟨V3, hV3⟩ : ∃ V3, (V2.alloc (.cells c tRe)).setRow w.heap.size (reC 4 noV (.slice (some ⟨V2.heap.size, 0, none⟩) 1 1) 0 (-1)) = V3 := ⟨_, rfl⟩
  have HT3 : Hid (Tm rb s (i + 1) (reC 4 noV (.slice (some ⟨V2.heap.size, 0, none⟩) 1 1) 0 (-1)) w V3) := Lib.hid (by rw [← hV3]; exact HT2.out.quant)
  have hg3 : Hid (V3.heap[V2.heap.size]? = some (.cells c tRe (0, 0)) ∧ w.heap.size + 2 ≤ V2.heap.size) := Lib.hid (by rw [← hV3]; exact HT2.out.row)
  rw [hV3]
  have HC3 : Hid ((reC 4 noV (.slice (some ⟨V2.heap.size, 0, none⟩) 1 1) 0 (-1)).size = 132) := Lib.hid rfl
  have H13 : Hid (oneC (reC 4 noV (.slice (some ⟨V2.heap.size, 0, none⟩) 1 1) 0 (-1)).toList) := Lib.hid (oneC_reC oneC_no rfl)
  obtain ⟨g, hg⟩ : ∃ g, V2.heap.size = g := ⟨_, rfl⟩
  rw [hg] at HT3 hg3 HC3 H13
  obtain ⟨c3, hc3⟩ : ∃ c3, reC 4 noV (.slice (some ⟨g, 0, none⟩) 1 1) 0 (-1) = c3 := ⟨_, rfl⟩
  rw [hc3] at HT3 HC3 H13
  have hc3' := Lib.hid hc3
  clear hV3 hb2 hnc hc3 v0 v1 v2
  have HM2 := Lib.hid (more_any rb s (i + 1) true)
  clear hg
  go_wp2_with fail
  rw [rounds_succ]
  go_wp2_with fail
  rcases HD.out with rfl | ⟨d, r', rfl, hd1, h42, h43, h63, h123⟩
  · have hm : decide (((i + 1 : Nat) : Int) < (s.size : Int)) = false := by simp at hsz2 ⊢; omega
    rw [hm] at HM2
    clear hm hsz hsz2
    refine (HM2.out _ HT3.out.r).mono ?_
    rintro e w4 ⟨rfl, n4, rfl⟩
    go_upto_region 24 with fail
    refine wp_region_list ?_
    refine wpList_load_row rfl tRe _ rfl w.heap.size rfl tRe c3 (0, 0) _ (HT3.out.drew _).n Tryf.underlying29 rfl (by rw [sizeRe, HC3.out]) ?_
    go_wp2
    rw [storeRe _ (w.heap.size + 1) reZ _ (HT3.out.drew _).z rfl (by rw [Array.length_toList, HC3.out]) H13.out]
    go_wp2
    exact Tm.done (HT3.out.drew _) HC3.out rfl (fun w' a b kk => ⟨g, by rw [hc3'.out], by have := hg3.out.2; omega, kk.heap (by have := hg3.out.2; show ¬ _ = g; omega) hg3.out.1, a, b⟩)
  · have hm : decide (((i + 1 : Nat) : Int) < (s.size : Int)) = true := by simp at hsz2 ⊢; omega
    rw [hm] at HM2
    have Q42 := Lib.hid (pre_no (l := []) (r := r') (of_ne (n := 42) hd1 (by omega) h42))
    have Q43 := Lib.hid (pre_no (l := []) (r := r') (of_ne (n := 43) hd1 (by omega) h43))
    have Q63 := Lib.hid (pre_no (l := []) (r := r') (of_ne (n := 63) hd1 (by omega) h63))
    have Q123 := Lib.hid (pre_no (l := []) (r := r') (of_ne (n := 123) hd1 (by omega) h123))
    obtain ⟨x0, x1, x2, _, _, _⟩ := HT3.out.r.cells
    clear hm hsz hsz2
    refine (HM2.out _ HT3.out.r).mono ?_
    rintro e w4 ⟨rfl, n4, rfl⟩
    go_upto_region 6 with (go_at_call 35; refine (skip_f rb s _ (i + 1) true _ _ (by exact HT3.out.r.drew _) hs (by decide) HR2.out (by first | exact Q42.out | exact Q43.out | exact Q63.out | exact Q123.out)).mono ?_; rintro e w' ⟨rfl, m, rfl⟩)
    refine wp_region_list ?_
    refine wpList_load_row rfl tRe _ rfl w.heap.size rfl tRe c3 (0, 0) _ (HT3.out.drew _).n Tryf.underlying29 rfl (by rw [sizeRe, HC3.out]) ?_
    go_wp2
    rw [storeRe _ (w.heap.size + 1) reZ _ (HT3.out.drew _).z rfl (by rw [Array.length_toList, HC3.out]) H13.out]
    go_wp2
    exact Tm.done (HT3.out.drew _) HC3.out rfl (fun w' a b kk => ⟨g, by rw [hc3'.out], by have := hg3.out.2; omega, kk.heap (by have := hg3.out.2; show ¬ _ = g; omega) hg3.out.1, a, b⟩)
set_option maxHeartbeats 4000000 in
set_option maxRecDepth 100000 in
theorem times_plus (rb : Nat) (s : ByteArray) (i : Nat) (r : List UInt8) (c : Array Value) (w : World) (h : RS rb s i true w) (hs : s.size ≤ 4611686018427387904) (hr : Rm s i (UInt8.ofNat 43 :: r)) (hd : Hd r) (hc : c.size = 132) (h1 : oneC c.toList) :
    Calls Tryf.prog 36 #[.pointer (some ⟨rb, 0, none⟩), .agg c] w (TqPost rb s (i + 1) c 1 (-1) w) := by
  have hz := zeroRe
  have hsz := hr.size
  have hsz2 := hr.tail.size
  have HT := Lib.hid (Tm.start (c := c) h)
  obtain ⟨V, hV⟩ : ∃ V, (w.alloc (.cells c tRe)).alloc (.cells reZ tRe) = V := ⟨_, rfl⟩
  rw [hV] at HT
  have HVe := Lib.hid hV
  have HC := Lib.hid hc
  have H1 := Lib.hid h1
  have hm : decide ((i : Int) < (s.size : Int)) = true := by simp at hsz ⊢; omega
  have HM := Lib.hid (more_any rb s i true)
  rw [hm] at HM
  have HR := Lib.hid hr
  have HR2 := Lib.hid hr.tail
  have N63 := Lib.hid hd.no63
  have HD := Lib.hid hd
  obtain ⟨v0, v1, v2, _, _, _⟩ := HT.out.r.cells
  have P42 := Lib.hid (pre_no (l := []) (r := r) (c := UInt8.ofNat 43) (d := UInt8.ofNat 42) (by decide))
  clear hr hc h1 hm h hV hd
  go_enter Tryf.func36, Tryf.ntmps36
  go_wp2
  refine wp_loop_rounds 2 ?_
  rw [rounds_succ]
  go_wp2_with fail
  rw [HVe.out]
  refine (HM.out _ HT.out.r).mono ?_
  rintro e w1 ⟨rfl, n, rfl⟩
  go_wp2_with fail
  refine (skip_f rb s _ i true _ _ (HT.out.r.drew _) hs (by decide) HR.out P42.out).mono ?_
  rintro e w' ⟨rfl, m, rfl⟩
  go_wp2_with fail
  refine (skip_t rb s ⟨#[43]⟩ i true _ _ (HT.out.r.drew _) hs HR.out).mono ?_
  rintro e w1 ⟨rfl, hr1, hk1⟩
  have HT1 : Hid (Tm rb s (i + 1) c w w1) := Lib.hid ((HT.out.drew _).call hr1 hk1)
  clear hr1 hk1
  go_wp2_with fail
  refine (skip_f rb s _ (i + 1) true _ _ HT1.out.r hs (by decide) HR2.out N63.out).mono ?_
  rintro e w2 ⟨rfl, n2, rfl⟩
  have HT2 : Hid (Tm rb s (i + 1) c w (w1.drewN n2)) := Lib.hid (HT1.out.drew n2)
  obtain ⟨V2, hV2⟩ : ∃ V2, w1.drewN n2 = V2 := ⟨_, rfl⟩
  rw [hV2] at HT2
  rw [hV2]
  clear hV2
  go_upto_region 23 with fail
  refine wp_region_list ?_
  refine wpList_load_row rfl tRe _ rfl w.heap.size rfl tRe c (0, 0) _ HT2.out.n Tryf.underlying29 rfl (by rw [sizeRe, HC.out]) ?_
  refine wpList_plain rfl fun K2 hK2 => ?_
  refine wp_bs _ _ _ _ _ _ _ _ _ _ c rfl HC.out ?_
  refine hK2 _ _ ?_
  clear hK2
  go_wp2
  have hb2 : Below V2.heap.size V2 (V2.alloc (.cells c tRe)) := (Below.refl _ _).alloc (Nat.le_refl _) _
  have hnc : (V2.alloc (.cells c tRe)).heap[w.heap.size]? = some (.cells c tRe (0, 0)) := by rw [Lib.alloc_old _ _ _ (Array.getElem?_eq_some_iff.1 HT2.out.n).1]; exact HT2.out.n
  rw [storeRe _ w.heap.size c ((((reZ.toList.set 0 (.int .i64 4)).set 129 (.slice (some ⟨V2.heap.size, 0, none⟩) 1 1)).set 130 (.int .i64 1)).set 131 (.int .i64 (-1))) hnc HC.out rfl (oneC_reT _ rfl _ _), reT_eq]
  obtain ⟨V3, hV3⟩ : ∃ V3, (V2.alloc (.cells c tRe)).setRow w.heap.size (reC 4 noV (.slice (some ⟨V2.heap.size, 0, none⟩) 1 1) 1 (-1)) = V3 := ⟨_, rfl⟩
  have HT3 : Hid (Tm rb s (i + 1) (reC 4 noV (.slice (some ⟨V2.heap.size, 0, none⟩) 1 1) 1 (-1)) w V3) := Lib.hid (by rw [← hV3]; exact HT2.out.quant)
  have hg3 : Hid (V3.heap[V2.heap.size]? = some (.cells c tRe (0, 0)) ∧ w.heap.size + 2 ≤ V2.heap.size) := Lib.hid (by rw [← hV3]; exact HT2.out.row)
  rw [hV3]
  have HC3 : Hid ((reC 4 noV (.slice (some ⟨V2.heap.size, 0, none⟩) 1 1) 1 (-1)).size = 132) := Lib.hid rfl
  have H13 : Hid (oneC (reC 4 noV (.slice (some ⟨V2.heap.size, 0, none⟩) 1 1) 1 (-1)).toList) := Lib.hid (oneC_reC oneC_no rfl)
  obtain ⟨g, hg⟩ : ∃ g, V2.heap.size = g := ⟨_, rfl⟩
  rw [hg] at HT3 hg3 HC3 H13
  obtain ⟨c3, hc3⟩ : ∃ c3, reC 4 noV (.slice (some ⟨g, 0, none⟩) 1 1) 1 (-1) = c3 := ⟨_, rfl⟩
  rw [hc3] at HT3 HC3 H13
  have hc3' := Lib.hid hc3
  clear hV3 hb2 hnc hc3 v0 v1 v2
  have HM2 := Lib.hid (more_any rb s (i + 1) true)
  clear hg
  go_wp2_with fail
  rw [rounds_succ]
  go_wp2_with fail
  rcases HD.out with rfl | ⟨d, r', rfl, hd1, h42, h43, h63, h123⟩
  · have hm : decide (((i + 1 : Nat) : Int) < (s.size : Int)) = false := by simp at hsz2 ⊢; omega
    rw [hm] at HM2
    clear hm hsz hsz2
    refine (HM2.out _ HT3.out.r).mono ?_
    rintro e w4 ⟨rfl, n4, rfl⟩
    go_upto_region 24 with fail
    refine wp_region_list ?_
    refine wpList_load_row rfl tRe _ rfl w.heap.size rfl tRe c3 (0, 0) _ (HT3.out.drew _).n Tryf.underlying29 rfl (by rw [sizeRe, HC3.out]) ?_
    go_wp2
    rw [storeRe _ (w.heap.size + 1) reZ _ (HT3.out.drew _).z rfl (by rw [Array.length_toList, HC3.out]) H13.out]
    go_wp2
    exact Tm.done (HT3.out.drew _) HC3.out rfl (fun w' a b kk => ⟨g, by rw [hc3'.out], by have := hg3.out.2; omega, kk.heap (by have := hg3.out.2; show ¬ _ = g; omega) hg3.out.1, a, b⟩)
  · have hm : decide (((i + 1 : Nat) : Int) < (s.size : Int)) = true := by simp at hsz2 ⊢; omega
    rw [hm] at HM2
    have Q42 := Lib.hid (pre_no (l := []) (r := r') (of_ne (n := 42) hd1 (by omega) h42))
    have Q43 := Lib.hid (pre_no (l := []) (r := r') (of_ne (n := 43) hd1 (by omega) h43))
    have Q63 := Lib.hid (pre_no (l := []) (r := r') (of_ne (n := 63) hd1 (by omega) h63))
    have Q123 := Lib.hid (pre_no (l := []) (r := r') (of_ne (n := 123) hd1 (by omega) h123))
    obtain ⟨x0, x1, x2, _, _, _⟩ := HT3.out.r.cells
    clear hm hsz hsz2
    refine (HM2.out _ HT3.out.r).mono ?_
    rintro e w4 ⟨rfl, n4, rfl⟩
    go_upto_region 6 with (go_at_call 35; refine (skip_f rb s _ (i + 1) true _ _ (by exact HT3.out.r.drew _) hs (by decide) HR2.out (by first | exact Q42.out | exact Q43.out | exact Q63.out | exact Q123.out)).mono ?_; rintro e w' ⟨rfl, m, rfl⟩)
    refine wp_region_list ?_
    refine wpList_load_row rfl tRe _ rfl w.heap.size rfl tRe c3 (0, 0) _ (HT3.out.drew _).n Tryf.underlying29 rfl (by rw [sizeRe, HC3.out]) ?_
    go_wp2
    rw [storeRe _ (w.heap.size + 1) reZ _ (HT3.out.drew _).z rfl (by rw [Array.length_toList, HC3.out]) H13.out]
    go_wp2
    exact Tm.done (HT3.out.drew _) HC3.out rfl (fun w' a b kk => ⟨g, by rw [hc3'.out], by have := hg3.out.2; omega, kk.heap (by have := hg3.out.2; show ¬ _ = g; omega) hg3.out.1, a, b⟩)
set_option maxHeartbeats 4000000 in
set_option maxRecDepth 100000 in
theorem times_opt (rb : Nat) (s : ByteArray) (i : Nat) (r : List UInt8) (c : Array Value) (w : World) (h : RS rb s i true w) (hs : s.size ≤ 4611686018427387904) (hr : Rm s i (UInt8.ofNat 63 :: r)) (hd : Hd r) (hc : c.size = 132) (h1 : oneC c.toList) :
    Calls Tryf.prog 36 #[.pointer (some ⟨rb, 0, none⟩), .agg c] w (TqPost rb s (i + 1) c 0 1 w) := by
  have hz := zeroRe
  have hsz := hr.size
  have hsz2 := hr.tail.size
  have HT := Lib.hid (Tm.start (c := c) h)
  obtain ⟨V, hV⟩ : ∃ V, (w.alloc (.cells c tRe)).alloc (.cells reZ tRe) = V := ⟨_, rfl⟩
  rw [hV] at HT
  have HVe := Lib.hid hV
  have HC := Lib.hid hc
  have H1 := Lib.hid h1
  have hm : decide ((i : Int) < (s.size : Int)) = true := by simp at hsz ⊢; omega
  have HM := Lib.hid (more_any rb s i true)
  rw [hm] at HM
  have HR := Lib.hid hr
  have HR2 := Lib.hid hr.tail
  have N63 := Lib.hid hd.no63
  have HD := Lib.hid hd
  obtain ⟨v0, v1, v2, _, _, _⟩ := HT.out.r.cells
  have P42 := Lib.hid (pre_no (l := []) (r := r) (c := UInt8.ofNat 63) (d := UInt8.ofNat 42) (by decide))
  have P43 := Lib.hid (pre_no (l := []) (r := r) (c := UInt8.ofNat 63) (d := UInt8.ofNat 43) (by decide))
  clear hr hc h1 hm h hV hd
  go_enter Tryf.func36, Tryf.ntmps36
  go_wp2
  refine wp_loop_rounds 2 ?_
  rw [rounds_succ]
  go_wp2_with fail
  rw [HVe.out]
  refine (HM.out _ HT.out.r).mono ?_
  rintro e w1 ⟨rfl, n, rfl⟩
  go_wp2_with fail
  refine (skip_f rb s _ i true _ _ (HT.out.r.drew _) hs (by decide) HR.out P42.out).mono ?_
  rintro e w' ⟨rfl, m, rfl⟩
  go_wp2_with fail
  refine (skip_f rb s _ i true _ _ (HT.out.r.drew _) hs (by decide) HR.out P43.out).mono ?_
  rintro e w' ⟨rfl, m, rfl⟩
  go_wp2_with fail
  refine (skip_t rb s ⟨#[63]⟩ i true _ _ (HT.out.r.drew _) hs HR.out).mono ?_
  rintro e w1 ⟨rfl, hr1, hk1⟩
  have HT1 : Hid (Tm rb s (i + 1) c w w1) := Lib.hid ((HT.out.drew _).call hr1 hk1)
  clear hr1 hk1
  go_wp2_with fail
  refine (skip_f rb s _ (i + 1) true _ _ HT1.out.r hs (by decide) HR2.out N63.out).mono ?_
  rintro e w2 ⟨rfl, n2, rfl⟩
  have HT2 : Hid (Tm rb s (i + 1) c w (w1.drewN n2)) := Lib.hid (HT1.out.drew n2)
  obtain ⟨V2, hV2⟩ : ∃ V2, w1.drewN n2 = V2 := ⟨_, rfl⟩
  rw [hV2] at HT2
  rw [hV2]
  clear hV2
  go_upto_region 23 with fail
  refine wp_region_list ?_
  refine wpList_load_row rfl tRe _ rfl w.heap.size rfl tRe c (0, 0) _ HT2.out.n Tryf.underlying29 rfl (by rw [sizeRe, HC.out]) ?_
  refine wpList_plain rfl fun K2 hK2 => ?_
  refine wp_bs _ _ _ _ _ _ _ _ _ _ c rfl HC.out ?_
  refine hK2 _ _ ?_
  clear hK2
  go_wp2
  have hb2 : Below V2.heap.size V2 (V2.alloc (.cells c tRe)) := (Below.refl _ _).alloc (Nat.le_refl _) _
  have hnc : (V2.alloc (.cells c tRe)).heap[w.heap.size]? = some (.cells c tRe (0, 0)) := by rw [Lib.alloc_old _ _ _ (Array.getElem?_eq_some_iff.1 HT2.out.n).1]; exact HT2.out.n
  rw [storeRe _ w.heap.size c ((((reZ.toList.set 0 (.int .i64 4)).set 129 (.slice (some ⟨V2.heap.size, 0, none⟩) 1 1)).set 130 (.int .i64 0)).set 131 (.int .i64 1)) hnc HC.out rfl (oneC_reT _ rfl _ _), reT_eq]
  obtain ⟨V3, hV3⟩ : ∃ V3, (V2.alloc (.cells c tRe)).setRow w.heap.size (reC 4 noV (.slice (some ⟨V2.heap.size, 0, none⟩) 1 1) 0 1) = V3 := ⟨_, rfl⟩
  have HT3 : Hid (Tm rb s (i + 1) (reC 4 noV (.slice (some ⟨V2.heap.size, 0, none⟩) 1 1) 0 1) w V3) := Lib.hid (by rw [← hV3]; exact HT2.out.quant)
  have hg3 : Hid (V3.heap[V2.heap.size]? = some (.cells c tRe (0, 0)) ∧ w.heap.size + 2 ≤ V2.heap.size) := Lib.hid (by rw [← hV3]; exact HT2.out.row)
  rw [hV3]
  have HC3 : Hid ((reC 4 noV (.slice (some ⟨V2.heap.size, 0, none⟩) 1 1) 0 1).size = 132) := Lib.hid rfl
  have H13 : Hid (oneC (reC 4 noV (.slice (some ⟨V2.heap.size, 0, none⟩) 1 1) 0 1).toList) := Lib.hid (oneC_reC oneC_no rfl)
  obtain ⟨g, hg⟩ : ∃ g, V2.heap.size = g := ⟨_, rfl⟩
  rw [hg] at HT3 hg3 HC3 H13
  obtain ⟨c3, hc3⟩ : ∃ c3, reC 4 noV (.slice (some ⟨g, 0, none⟩) 1 1) 0 1 = c3 := ⟨_, rfl⟩
  rw [hc3] at HT3 HC3 H13
  have hc3' := Lib.hid hc3
  clear hV3 hb2 hnc hc3 v0 v1 v2
  have HM2 := Lib.hid (more_any rb s (i + 1) true)
  clear hg
  go_wp2_with fail
  rw [rounds_succ]
  go_wp2_with fail
  rcases HD.out with rfl | ⟨d, r', rfl, hd1, h42, h43, h63, h123⟩
  · have hm : decide (((i + 1 : Nat) : Int) < (s.size : Int)) = false := by simp at hsz2 ⊢; omega
    rw [hm] at HM2
    clear hm hsz hsz2
    refine (HM2.out _ HT3.out.r).mono ?_
    rintro e w4 ⟨rfl, n4, rfl⟩
    go_upto_region 24 with fail
    refine wp_region_list ?_
    refine wpList_load_row rfl tRe _ rfl w.heap.size rfl tRe c3 (0, 0) _ (HT3.out.drew _).n Tryf.underlying29 rfl (by rw [sizeRe, HC3.out]) ?_
    go_wp2
    rw [storeRe _ (w.heap.size + 1) reZ _ (HT3.out.drew _).z rfl (by rw [Array.length_toList, HC3.out]) H13.out]
    go_wp2
    exact Tm.done (HT3.out.drew _) HC3.out rfl (fun w' a b kk => ⟨g, by rw [hc3'.out], by have := hg3.out.2; omega, kk.heap (by have := hg3.out.2; show ¬ _ = g; omega) hg3.out.1, a, b⟩)
  · have hm : decide (((i + 1 : Nat) : Int) < (s.size : Int)) = true := by simp at hsz2 ⊢; omega
    rw [hm] at HM2
    have Q42 := Lib.hid (pre_no (l := []) (r := r') (of_ne (n := 42) hd1 (by omega) h42))
    have Q43 := Lib.hid (pre_no (l := []) (r := r') (of_ne (n := 43) hd1 (by omega) h43))
    have Q63 := Lib.hid (pre_no (l := []) (r := r') (of_ne (n := 63) hd1 (by omega) h63))
    have Q123 := Lib.hid (pre_no (l := []) (r := r') (of_ne (n := 123) hd1 (by omega) h123))
    obtain ⟨x0, x1, x2, _, _, _⟩ := HT3.out.r.cells
    clear hm hsz hsz2
    refine (HM2.out _ HT3.out.r).mono ?_
    rintro e w4 ⟨rfl, n4, rfl⟩
    go_upto_region 6 with (go_at_call 35; refine (skip_f rb s _ (i + 1) true _ _ (by exact HT3.out.r.drew _) hs (by decide) HR2.out (by first | exact Q42.out | exact Q43.out | exact Q63.out | exact Q123.out)).mono ?_; rintro e w' ⟨rfl, m, rfl⟩)
    refine wp_region_list ?_
    refine wpList_load_row rfl tRe _ rfl w.heap.size rfl tRe c3 (0, 0) _ (HT3.out.drew _).n Tryf.underlying29 rfl (by rw [sizeRe, HC3.out]) ?_
    go_wp2
    rw [storeRe _ (w.heap.size + 1) reZ _ (HT3.out.drew _).z rfl (by rw [Array.length_toList, HC3.out]) H13.out]
    go_wp2
    exact Tm.done (HT3.out.drew _) HC3.out rfl (fun w' a b kk => ⟨g, by rw [hc3'.out], by have := hg3.out.2; omega, kk.heap (by have := hg3.out.2; show ¬ _ = g; omega) hg3.out.1, a, b⟩)
end Go.Proofs.YtonifkkdokaooaaFmt

/- times at whatever sign; atom at a thing without kids: as the loop of alt wants them. -/
namespace Go.Proofs.YtonifkkdokaooaaFmt
open Go.RowKit
open Re (Fo G Su Ato)
set_option linter.unusedVariables false

/-- bytes out of numbers -/
def bs (l : List Nat) : List UInt8 := l.map UInt8.ofNat
theorem bs_app (a b : List Nat) : bs (a ++ b) = bs a ++ bs b := by simp [bs]
/-- a node with its sign -/
structure Nod where
  k : Nat
  set : List Bool
  kids : Fo
  l : Int
  m : Int
def Nod.fo (n : Nod) (r : Fo) : Fo := .cons n.k n.set n.kids n.l n.m r
def sfxN (q : Su) (k : Nat) (set : List Bool) (kids : Fo) : Nod :=
  match q with
  | .one => ⟨k, set, kids, 0, 0⟩
  | .star => ⟨4, Re.no128, .cons k set kids 0 0 .nil, 0, -1⟩
  | .plus => ⟨4, Re.no128, .cons k set kids 0 0 .nil, 1, -1⟩
  | .opt => ⟨4, Re.no128, .cons k set kids 0 0 .nil, 0, 1⟩
theorem sfx_eq (q : Su) (k : Nat) (set : List Bool) (kids r : Fo) : Re.sfx q k set kids r = (sfxN q k set kids).fo r := by cases q <;> rfl
def NdN (P : Nat → Prop) (w : World) (n : Nod) (c : Array Value) : Prop := Nd P w n.k n.set n.kids n.l n.m c
theorem Nd.times {B : Nat} {w w' : World} {k : Nat} {set : List Bool} {kids : Fo} {c : Array Value} {g : Nat} {l m : Int} (h : Nd (fun g => B ≤ g) w k set kids 0 0 c) {X : Nat → Prop} (kp : Kp X w w') (hX : ∀ g, B ≤ g → ¬ X g) (hg : w'.heap[g]? = some (.cells c tRe (0, 0))) (hb : B ≤ g) :
    Nd (fun g => B ≤ g) w' 4 Re.no128 (.cons k set kids 0 0 .nil) l m (reC 4 noV (.slice (some ⟨g, 0, none⟩) 1 1) l m) := by
  have h' := (h.kept kp hX).foC
  refine ⟨by simp [Re.no128, Re.falses], _, c.toList, by rw [noV_eq]; rfl, ⟨?_, .inr ⟨g, 1, c, rfl, hb, hg, Nat.le_refl _, by decide, ?_, ?_⟩⟩, h'⟩
  · have := h'.length; simpa using this
  · have := h.size; simpa using this
  · have := h.size; rw [List.take_of_length_le (by simp [this, Fo.len])]
theorem times_all (B rb : Nat) (s : ByteArray) (i : Nat) (q : Su) (r : List UInt8) (k : Nat) (set : List Bool) (kids : Fo) (c : Array Value) (w : World) (h : RS rb s i true w) (hs : s.size ≤ 4611686018427387904) (hr : Rm s i (bs (Re.prS q) ++ r)) (hd : Hd r)
    (hn : Nd (fun g => B ≤ g) w k set kids 0 0 c) (hB : B ≤ w.heap.size) (hrb : rb < B) :
    Calls Tryf.prog 36 #[.pointer (some ⟨rb, 0, none⟩), .agg c] w fun e w' => ∃ c', e = .returned (.agg c') ∧ NdN (fun g => B ≤ g) w' (sfxN q k set kids) c' ∧ RS rb s (i + (Re.prS q).length) true w' ∧ Kp (· = rb) w w' := by
  have hX : ∀ g, B ≤ g → ¬ g = rb := fun g hg => by omega
  have done : ∀ (l m : Int) e w', TqPost rb s (i + 1) c l m w e w' → ∃ c', e = .returned (.agg c') ∧ Nd (fun g => B ≤ g) w' 4 Re.no128 (.cons k set kids 0 0 .nil) l m c' ∧ RS rb s (i + 1) true w' ∧ Kp (· = rb) w w' := by
    rintro l m e w' ⟨g, he, hg, hcell, hr', hk⟩
    exact ⟨_, he, hn.times hk hX hcell (by omega), hr', hk⟩
  cases q with
  | one =>
    refine (times_one rb s i r c w h hs hr hd hn.size hn.oneC).mono ?_
    rintro e w' ⟨he, h1, h2⟩
    exact ⟨c, he, hn.kept h2 hX, h1, h2⟩
  | star => exact (times_star rb s i r c w h hs hr hd hn.size hn.oneC).mono (done 0 (-1))
  | plus => exact (times_plus rb s i r c w h hs hr hd hn.size hn.oneC).mono (done 1 (-1))
  | opt => exact (times_opt rb s i r c w h hs hr hd hn.size hn.oneC).mono (done 0 1)
/-- what atom leaves, as the loop of alt wants it -/
def AmPost (rb fb : Nat) (s : ByteArray) (j : Nat) (f2 d2 : Bool) (k : Nat) (set : List Bool) (kids : Fo) (w : World) (e : Ending) (w' : World) : Prop :=
  ∃ c, e = .returned (.agg c) ∧ Nd (fun g => w.heap.size ≤ g) w' k set kids 0 0 c ∧ RS rb s j true w' ∧ FS fb f2 d2 w' ∧ Kp (XR rb fb) w w'
theorem AtPost.am {rb fb : Nat} {s : ByteArray} {j k : Nat} {f2 d2 : Bool} {set : List Bool} {w w' : World} {e : Ending} (h : AtPost rb s j k set w e w') (hl : set.length = 128) (hf : FS fb f2 d2 w) (hne : fb ≠ rb) : AmPost rb fb s j f2 d2 k set .nil w e w' :=
  ⟨_, h.1, Nd.one hl, h.2.1, h.2.2.heap hne hf, h.2.2.mono (fun x _ hx => .inl hx)⟩
theorem atom_ato (rb fb : Nat) (s : ByteArray) (i : Nat) (a : Ato) (r : List UInt8) (fold dot : Bool) (w : World) (h : RS rb s i true w) (hf : FS fb fold dot w) (hs : s.size ≤ 4611686018427387904) (hr : Rm s i (bs (Re.prA a) ++ r)) (ha : a.ok = true) (hc : ∀ n is, a ≠ .cls n is) :
    Calls Tryf.prog 37 #[.pointer (some ⟨rb, 0, none⟩), .pointer (some ⟨fb, 0, none⟩)] w (AmPost rb fb s (i + (Re.prA a).length) fold dot (Re.ndA fold dot a).1 (Re.ndA fold dot a).2 .nil w) := by
  have hne : fb ≠ rb := blk_ne hf h (by decide)
  have hl := Re.ndA_length fold dot a
  cases a with
  | lit c => exact (atom_lit rb fb s i c r fold dot w h hf hs hr ha).mono fun e w' hp => AtPost.am hp hl hf hne
  | esc c =>
    simp only [Re.Ato.ok, Re.escOk, Bool.and_eq_true, decide_eq_true_eq, Bool.not_eq_true'] at ha
    exact (atom_esc rb fb s i c r fold dot w h hf hs hr ha.1 ha.2).mono fun e w' hp => AtPost.am hp hl hf hne
  | dot => exact (atom_dot rb fb s i r fold dot w h hf hs hr).mono fun e w' hp => AtPost.am hp hl hf hne
  | beg => exact (atom_beg rb fb s i r fold dot w h hf hs hr).mono fun e w' hp => AtPost.am hp hl hf hne
  | fin => exact (atom_fin rb fb s i r fold dot w h hf hs hr).mono fun e w' hp => AtPost.am hp hl hf hne
  | cls n is => exact absurd rfl (hc n is)
end Go.Proofs.YtonifkkdokaooaaFmt
