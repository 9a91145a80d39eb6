/- Joined by pack.py: RdR, CT, RdS, RdT, RdU, ClA, ClB, ClD, ClE. -/
import Derived.Test.YtonifkkdokaooaaFmtP09
import Derived.Test.YtonifkkdokaooaaFmtP08
import Derived.Deep.CutBlock
import Derived.Deep.Cut
/- alt: a round of its loop that lays one thing more. -/
namespace Go.Proofs.YtonifkkdokaooaaFmt
open Go.RowKit
open Re (Fo G Su Ato)
set_option linter.unusedVariables false

theorem alL_eq : alL = .seq al2 (.block 1 (.seq al34 (.seq al5 al6))) := by kernel_rfl
theorem AF.six {rb fb z ob : Nat} {a : Array Value} (h : AF rb fb z ob a) : ∃ v6, a[6]? = some v6 :=
  ⟨a[6]'(by rw [h.sz]; decide), Array.getElem?_eq_getElem _⟩
theorem Kp.false_mono {X : Nat → Prop} {w w' : World} (h : Kp (fun _ => False) w w') : Kp X w w' := h.mono (fun _ _ h => h.elim)
theorem round_item {B rb fb z ob g1 c1 : Nat} {lv : Value} {r1 : Array Value} {aa ks : List Value} {s : ByteArray} {j j1 : Nat} {fold dot f2 d2 : Bool} {A K : Fo} {w0 w : World} {Q : Exit → Act → World → Prop} {fuel : Nat} {a : Array Value}
    {k : Nat} {set : List Bool} {kids : Fo} {q : Su} {r : List UInt8} {x0 : UInt8} {r0 : List UInt8}
    (hF : AF rb fb z ob a) (h : AL B rb fb z ob g1 c1 lv r1 aa ks s j fold dot A K w0 w) (hs : s.size ≤ 274877906944) (hlA : A.len ≤ 549755813888) (hlK : K.len ≤ 549755813888) (hm : Rm s j (x0 :: r0)) (h41 : x0 ≠ UInt8.ofNat 41) (h124 : UInt8.ofNat 124 ≠ x0)
    (hA : ∀ V, Kp (· = rb) w0 V → RS rb s j true V → FS fb fold dot V → Calls Tryf.prog 37 #[.pointer (some ⟨rb, 0, none⟩), .pointer (some ⟨fb, 0, none⟩)] V (AmPost rb fb s j1 f2 d2 k set kids V))
    (hq : Rm s j1 (bs (Re.prS q) ++ r)) (hd : Hd r)
    (hN : ∀ a' w' g cap r1' ks', AF rb fb z ob a' → AL B rb fb z ob g1 c1 (.slice (some ⟨g, 0, none⟩) (K.len + 1) cap) r1' aa ks' s (j1 + (Re.prS q).length) f2 d2 A (K.app ((sfxN q k set kids).fo .nil)) w0 w' → Code.rounds Tryf.prog alL Q fuel ⟨a', []⟩ w') :
    Code.rounds Tryf.prog alL Q (fuel + 1) ⟨a, []⟩ w := by
  have hs2 : s.size ≤ 4611686018427387904 := by omega
  rw [rounds_succ, alL_eq]
  refine wp_seq ?_
  obtain ⟨v6, h6⟩ := hF.six
  refine al2_yes rb fb z ob s j x0 r0 w _ a v6 hF h6 h.r hm h41 (fun n a1 hF1 h61 => ?_)
  refine wp_block (wp_seq ?_)
  refine al34_no rb fb z ob s j x0 r0 _ _ a1 v6 hF1 h61 (h.r.drew n) hs2 hm h124 (fun m a2 hF2 h62 => ?_)
  obtain ⟨W, hW⟩ : ∃ W, (w.drewN n).drewN m = W := ⟨_, rfl⟩
  have kW : Kp (· = rb) w W := by rw [← hW]; exact Kp.drewN m (Kp.drewN n (Kp.refl _ w))
  have hW2 : AL B rb fb z ob g1 c1 lv r1 aa ks s j fold dot A K w0 W := h.kept0 (by rw [← hW]; exact (h.r.drew n).drew m) kW
  rw [hW]
  clear hW kW h hm
  refine wp_seq ?_
  refine al5_walk rb fb z ob g1 c1 A.len W _ a2 v6 hF2 h62 hW2.out.1 hlA (fun a3 hF3 h63 => ?_)
  obtain ⟨la, lc, rfl, hla⟩ := ownsRow_form hW2.ol
  obtain ⟨hl1, hl2, hl3, hl4, hbg⟩ := hW2.last
  obtain ⟨sb1, sb2, sb3, sb4, sb5⟩ := hW2.sb
  have hBW : B ≤ W.heap.size := by have := hW2.k.size; omega
  have flt : fb < W.heap.size := (Array.getElem?_eq_some_iff.1 hW2.f).1
  have hfr : fb ≠ rb := by omega
  have hxr : ∀ x, B ≤ x → x ≠ fb → ¬ XR rb fb x := fun x hx hne => by rintro (e | e) <;> omega
  refine al6_walk rb fb z ob g1 (A.len * 132) B la K.len lc ks r1 W _ a3 hF3 h63 hW2.row hl4 (hxr g1 hbg hW2.sg.2.2) (fun p hp => ?_) (by omega) flt hBW hW2.ol hlK
    (fun c V => Nd (fun g => W.heap.size ≤ g) V k set kids 0 0 c ∧ RS rb s j1 true V ∧ FS fb f2 d2 V ∧ Kp (XR rb fb) W V)
    (fun c V => NdN (fun g => W.heap.size ≤ g) V (sfxN q k set kids) c ∧ RS rb s (j1 + (Re.prS q).length) true V ∧ FS fb f2 d2 V) ?_ ?_ ?_ ?_ ?_
  · subst hp
    have := hW2.sl p.block rfl
    exact ⟨hxr _ (hla p rfl).1 this.2.2.2, this.1⟩
  · intro V kV
    refine (hA V (hW2.k.trans kV.false_mono) (hW2.r.kept kV id) (kV.heap id hW2.f)).mono ?_
    rintro e V' ⟨c, he, hn, hr, hf, hk⟩
    exact ⟨c, he, ⟨hn.mono (fun g hg _ => Nat.le_trans kV.size hg), hr, hf, kV.false_mono.trans hk⟩, hk⟩
  · rintro c V ⟨hn, hr, hf, hk⟩
    refine (times_all W.heap.size rb s j1 q r k set kids c V hr hs2 hq hd hn hk.size (by omega)).mono ?_
    rintro e V' ⟨c', he, hn', hr', hk'⟩
    exact ⟨c', he, ⟨hn', hr', hk'.heap hfr hf⟩, Nd.size hn', Nd.oneC hn', hk'.mono (fun x _ hx => .inl hx)⟩
  · rintro c V V' ⟨hn, hr, hf, hk⟩ k'
    exact ⟨hn.kept k' (fun _ _ => id), hr.kept k' id, k'.heap id hf, hk.trans k'.false_mono⟩
  · rintro c V V' ⟨hn, hr, hf⟩ k'
    exact ⟨Nd.kept hn k' (fun _ _ => id), hr.kept k' id, k'.heap id hf⟩
  · rintro c' W' w4 g cap a4 hF4 hk ⟨hn, hr, hf⟩ h4
    exact hN a4 w4 g cap _ _ hF4 (hW2.item hn hr hf hk h4)
theorem round_bar {B rb fb z ob g1 c1 : Nat} {lv : Value} {r1 : Array Value} {aa ks : List Value} {s : ByteArray} {j : Nat} {fold dot : Bool} {A K : Fo} {w0 w : World} {Q : Exit → Act → World → Prop} {fuel : Nat} {a : Array Value} {r : List UInt8}
    (hF : AF rb fb z ob a) (h : AL B rb fb z ob g1 c1 lv r1 aa ks s j fold dot A K w0 w) (hs : s.size ≤ 274877906944) (hlA : A.len ≤ 549755813888) (hm : Rm s j (UInt8.ofNat 124 :: r))
    (hN : ∀ a' w' g cap r1' aa', AF rb fb z ob a' → AL B rb fb z ob g cap (.slice none 0 0) r1' aa' [] s (j + 1) fold dot (A.app (.cons 2 Re.no128 K 0 0 .nil)) .nil w0 w' → Code.rounds Tryf.prog alL Q fuel ⟨a', []⟩ w') :
    Code.rounds Tryf.prog alL Q (fuel + 1) ⟨a, []⟩ w := by
  have hs2 : s.size ≤ 4611686018427387904 := by omega
  rw [rounds_succ, alL_eq]
  refine wp_seq ?_
  obtain ⟨v6, h6⟩ := hF.six
  refine al2_yes rb fb z ob s j (UInt8.ofNat 124) r w _ a v6 hF h6 h.r hm (by decide) (fun n a1 hF1 h61 => ?_)
  refine wp_block (wp_seq ?_)
  have kW : Kp (· = rb) w (w.drewN n) := Kp.drewN n (Kp.refl _ w)
  have hW2 := h.kept0 (h.r.drew n) kW
  obtain ⟨sb1, sb2, sb3, sb4, sb5⟩ := hW2.sb
  have hBW : B ≤ (w.drewN n).heap.size := by have := hW2.k.size; omega
  refine al34_bar B rb fb z ob g1 c1 A.len lv aa s j r _ _ a1 v6 hF1 h61 hW2.r hs2 hm hW2.ho hW2.own hlA hBW sb1 sb4 hW2.sg.1 (fun w1 w4 g cap a2 hF2 h62 hr1 hk1 h4 => ?_)
  obtain ⟨r1', h5⟩ := (hW2.kept0 hr1 hk1).bar h4
  exact hN a2 w4 g cap r1' _ hF2 h5
theorem round_end {rb fb z ob : Nat} {s : ByteArray} {j : Nat} {w : World} {Q : Exit → Act → World → Prop} {fuel : Nat} {a : Array Value} {l : List UInt8}
    (hF : AF rb fb z ob a) (hr : RS rb s j true w) (hm : Rm s j l) (hl : l = [] ∨ ∃ l', l = UInt8.ofNat 41 :: l') (hQ : ∀ n a', AF rb fb z ob a' → Q (.exit 0) ⟨a', []⟩ (w.drewN n)) : Code.rounds Tryf.prog alL Q (fuel + 1) ⟨a, []⟩ w := by
  rw [rounds_succ, alL_eq]
  refine wp_seq ?_
  obtain ⟨v6, h6⟩ := hF.six
  rcases hl with rfl | ⟨l', rfl⟩
  · exact al2_end rb fb z ob s j w _ a v6 hF h6 hr hm (fun n a' hF' => hQ n a' hF')
  · exact al2_par rb fb z ob s j l' w _ a v6 hF h6 hr hm (fun n a' hF' => hQ n a' hF')
end Go.Proofs.YtonifkkdokaooaaFmt

/- The tables of the classes: that they lie there, and stay. -/
namespace Go.Proofs.YtonifkkdokaooaaFmt
open Go.RowKit
open Re (G)
set_option linter.unusedVariables false

/-- the ranges of the classes, as text -/
def rgL (k : Nat) : List Nat := (Re.clsR k).flatMap fun p => [p.1, p.2]
/-- a table of 13 texts at a package-level variable -/
def TB (g : Nat) (f : Nat → List Nat) (w : World) : Prop := ∃ cb co cc, w.cell? ⟨g, 0, none⟩ = some (.slice (some ⟨cb, co, none⟩) 13 cc) ∧ ∀ k, k < 13 → w.cell? ⟨cb, co + k, none⟩ = some (.string ⟨(bs (f k)).toArray⟩)
/-- a block that holds no such table -/
def noTab (b : Nat) (w : World) : Prop := (∀ a n c, w.cell? ⟨b, 0, none⟩ ≠ some (.slice a n c)) ∧ ∀ o s, w.cell? ⟨b, o + 1, none⟩ ≠ some (.string s)
theorem TB.kept {g : Nat} {f : Nat → List Nat} {X : Nat → Prop} {w w' : World} (h : TB g f w) (k : Kp X w w') (hX : ∀ b, X b → noTab b w) : TB g f w' := by
  obtain ⟨cb, co, cc, h1, h2⟩ := h
  refine ⟨cb, co, cc, k.cell (fun e => (hX _ e).1 _ _ _ h1) h1, fun j hj => k.cell (fun e => ?_) (h2 j hj)⟩
  exact (hX _ e).2 co _ (h2 1 (by omega))
theorem RS.noTab {rb : Nat} {s : ByteArray} {i : Nat} {ok : Bool} {w : World} (h : RS rb s i ok w) : noTab rb w := by
  unfold RS at h
  refine ⟨fun a n c e => ?_, fun o t e => ?_⟩
  · rw [Lib.cell_of_heap h] at e; cases e
  · rw [Lib.cell_of_heap h] at e
    match o, e with
    | 0, e => cases e
    | 1, e => cases e
    | o + 2, e => simp at e
theorem FS.noTab {fb : Nat} {fold dot : Bool} {w : World} (h : FS fb fold dot w) : noTab fb w := by
  unfold FS at h
  refine ⟨fun a n c e => ?_, fun o t e => ?_⟩
  · rw [Lib.cell_of_heap h] at e; cases e
  · rw [Lib.cell_of_heap h] at e
    match o, e with
    | 0, e => cases e
    | o + 1, e => simp at e
/-- both tables -/
structure CT (w : World) : Prop where
  rg : TB 3 rgL w
  cn : TB 2 Re.nmL w
theorem CT.kept {X : Nat → Prop} {w w' : World} (h : CT w) (k : Kp X w w') (hX : ∀ b, X b → noTab b w) : CT w' := ⟨h.rg.kept k hX, h.cn.kept k hX⟩
def noC : G → Bool
  | .done => true
  | .bar r => noC r
  | .ato a _ r => (match a with | .cls _ _ => false | _ => true) && noC r
  | .grp i _ r => noC i && noC r
  | .flg _ _ r => noC r
end Go.Proofs.YtonifkkdokaooaaFmt

/- alt: from its rounds to the call. -/
namespace Go.Proofs.YtonifkkdokaooaaFmt
open Go.RowKit
open Re (Fo G Su Ato)
set_option linter.unusedVariables false

section
variable {B rb fb z ob g1 c1 : Nat} {lv : Value} {r1 : Array Value} {aa ks : List Value} {s : ByteArray} {j : Nat} {fold dot : Bool} {A K : Fo} {w0 w : World}
theorem AL.node (h : AL B rb fb z ob g1 c1 lv r1 aa ks s j fold dot A K w0 w) : Nd (fun x => B ≤ x ∧ x ≠ z) w 3 Re.no128 (A.app (.cons 2 Re.no128 K 0 0 .nil)) 0 0 (reC 3 noV (.slice (some ⟨g1, 0, none⟩) (A.len + 1) c1) 0 0) := by
  obtain ⟨hl1, hl2, hl3, hl4, hbg⟩ := h.last
  have hlen : (A.app (.cons 2 Re.no128 K 0 0 .nil)).len = A.len + 1 := by rw [Fo.len_app]; rfl
  refine ⟨by simp [Re.no128, Re.falses], _, aa ++ (reC 2 noV lv 0 0).toList, by rw [noV_eq]; rfl, ?_, ?_⟩
  · rw [hlen]
    exact Sl.of_own h.own (fun g hg hb => by have e : g1 = g := by simpa [Value.ownBlock] using hg
                                             exact ⟨hb, by have := h.sg.2.1; omega⟩)
  · have m : ∀ {F : Fo} {xs : List Value}, FoC (PA B fb z ob g1 lv) w F xs → FoC (fun x => B ≤ x ∧ x ≠ z) w F xs := fun hF => hF.mono (fun x hx _ => ⟨hx.1, hx.2.2.2.1⟩)
    refine (m h.fa).app ⟨by simp [Re.no128, Re.falses], lv, ks, [], ?_, ?_, m h.fk, rfl⟩
    · rw [← noV_eq]; simp
    · exact Sl.of_own h.ol (fun g hg hb => ⟨hb, (h.sl g hg).2.2.1⟩)
end
noncomputable def al7 : Code := lq2 (lq2 (lq2 alB))
set_option maxHeartbeats 4000000 in
set_option maxRecDepth 100000 in
theorem al7_walk {B rb fb z ob g1 c1 : Nat} {lv : Value} {r1 : Array Value} {aa ks : List Value} {s : ByteArray} {j : Nat} {fold dot : Bool} {A K : Fo} {w0 w : World} {a : Array Value} {L : Fo}
    (hF : AF rb fb z ob a) (h : AL B rb fb z ob g1 c1 lv r1 aa ks s j fold dot A K w0 w) (hL : A.app (.cons 2 Re.no128 K 0 0 .nil) = L) :
    Code.wp Tryf.prog al7 (bodyPost Tryf.prog Tryf.f24 (RdPost (· = rb) rb s j 3 Re.no128 L 0 0 w0)) ⟨a, []⟩ w := by
  obtain ⟨v6, h6⟩ := hF.six
  have hn := h.node
  rw [hL] at hn
  obtain ⟨sb1, sb2, sb3, sb4, sb5⟩ := h.sb
  have hpost : RdPost (· = rb) rb s j 3 Re.no128 L 0 0 w0 (.returned (.agg (reC 3 noV (.slice (some ⟨g1, 0, none⟩) (A.len + 1) c1) 0 0))) (w.setRow z (reC 3 noV (.slice (some ⟨g1, 0, none⟩) (A.len + 1) c1) 0 0)) := by
    have kz : Kp (fun x => x = z) w (w.setRow z (reC 3 noV (.slice (some ⟨g1, 0, none⟩) (A.len + 1) c1) 0 0)) := Kp.setRow (X := fun x => x = z) (g := z) (Kp.refl _ w) (.inl rfl) _
    refine ⟨_, rfl, (hn.kept kz (fun x hx => hx.2)).mono (fun x hx _ => by rw [sb5]; exact hx.1), h.r.kept kz (by show ¬ rb = z; omega), h.k.seq' kz (fun x hx _ => by show ¬ x = z; omega)⟩
  have HP := Lib.hid hpost
  have HZ := Lib.hid h.hz
  have HO := Lib.hid h.ho
  clear hpost hn h
  refine AF.open (C := fun a => Code.wp Tryf.prog al7 _ ⟨a, []⟩ w) hF h6 fun x => ?_
  clear hF h6
  simp only [al7, alB, Tryf.f24, Option.getD_some, lq2]
  refine wp_seq ?_
  refine wp_region_list ?_
  refine wpList_load_row rfl tRe _ rfl ob rfl tRe _ (0, 0) _ HO.out Tryf.underlying29 rfl (by rw [sizeRe]; rfl) ?_
  refine wpList_store_row rfl tRe _ _ rfl z _ rfl rfl tRe reZ HZ.out (by rw [sizeRe]; rfl) rfl (Array.all_eq_true_iff_forall_mem.2 (fun v hv => (oneC_reC oneC_no rfl : oneC (reC 3 noV (.slice (some ⟨g1, 0, none⟩) (A.len + 1) c1) 0 0).toList) v (by simpa using hv))) ?_
  refine wpList_nil ?_
  go_wp2
  exact bodyPost_ret (v := .agg (reC 3 noV (.slice (some ⟨g1, 0, none⟩) (A.len + 1) c1) 0 0)) (resultRe Tryf.results24 _ _ z _ rfl (setRow_heap _ _ reZ _ tRe (0, 0) HZ.out) rfl) rfl HP.out
def steps : G → Nat
  | .done => 0
  | .bar r => steps r + 1
  | .ato _ _ r => steps r + 1
  | .grp _ _ r => steps r + 1
  | .flg _ _ r => steps r + 1
/-- behind all rounds over g -/
def RoundsOK (g : G) : Prop := ∀ (B rb fb z ob g1 c1 : Nat) (lv : Value) (r1 : Array Value) (aa ks : List Value) (s : ByteArray) (j : Nat) (fold dot : Bool) (A K : Fo) (w0 w : World) (Q : Exit → Act → World → Prop) (a : Array Value) (l : List UInt8) (fuel : Nat),
  AF rb fb z ob a → AL B rb fb z ob g1 c1 lv r1 aa ks s j fold dot A K w0 w → s.size ≤ 274877906944 → A.len ≤ j → K.len ≤ j → Rm s j (bs (Re.pr g) ++ l) → (l = [] ∨ ∃ l', l = UInt8.ofNat 41 :: l') → g.ok = true → (noC g = true ∨ (CT w0 ∧ noTab rb w0)) → steps g < fuel →
  (∀ n a' w' g1' c1' lv' r1' aa' ks' f2 d2 A' K', AF rb fb z ob a' → AL B rb fb z ob g1' c1' lv' r1' aa' ks' s (j + (Re.pr g).length) f2 d2 A' K' w0 w' →
    A'.app (.cons 2 Re.no128 K' 0 0 .nil) = A.app (.cons 2 Re.no128 (K.app (Re.ms g fold dot).1) 0 0 (Re.ms g fold dot).2) → Q (.exit 0) ⟨a', []⟩ (w'.drewN n)) →
  Code.rounds Tryf.prog alL Q fuel ⟨a, []⟩ w
def AltOK (g : G) : Prop := ∀ (rb : Nat) (s : ByteArray) (i : Nat) (l : List UInt8) (fold dot : Bool) (w : World), RS rb s i true w → s.size ≤ 274877906944 → Rm s i (bs (Re.pr g) ++ l) → (l = [] ∨ ∃ l', l = UInt8.ofNat 41 :: l') → g.ok = true → (noC g = true ∨ CT w) →
  Calls Tryf.prog 24 #[.pointer (some ⟨rb, 0, none⟩), flV fold dot] w (RdPost (· = rb) rb s (i + (Re.pr g).length) 3 Re.no128 (Re.lists g fold dot) 0 0 w)
theorem AL.drewN {B rb fb z ob g1 c1 : Nat} {lv : Value} {r1 : Array Value} {aa ks : List Value} {s : ByteArray} {j : Nat} {fold dot : Bool} {A K : Fo} {w0 w : World} (h : AL B rb fb z ob g1 c1 lv r1 aa ks s j fold dot A K w0 w) (n : Nat) : AL B rb fb z ob g1 c1 lv r1 aa ks s j fold dot A K w0 (w.drewN n) :=
  h.kept0 (h.r.drew n) (Kp.drewN n (Kp.refl _ w))
set_option maxRecDepth 100000 in
theorem re3_eq (kv : Value) : ((reZ.toList.set 0 (.int .i64 3)).set 129 kv).toArray = reC 3 noV kv 0 0 := rfl
set_option maxRecDepth 100000 in
theorem oneC_re3 (kv : Value) (h : kv.oneCell' = true) : oneC ((reZ.toList.set 0 (.int .i64 3)).set 129 kv) := oneC_reC (k := 3) (kv := kv) (l := 0) (m := 0) oneC_no h
attribute [local go_sem ↓] wp_bsT
set_option maxHeartbeats 4000000 in
set_option maxRecDepth 100000 in
theorem alt_of (g : G) (hg : RoundsOK g) : AltOK g := by
  intro rb s i l fold dot w hr hs hm hl hok hct
  have hrz : reZ.size = 132 := rfl
  have hz := zeroRe
  have HR := Lib.hid hr
  have HM := Lib.hid hm
  have HL := Lib.hid hl
  have HG := Lib.hid hg
  clear hg hr hm hl
  go_enter Tryf.func24, Tryf.ntmps24
  go_wp2_with fail
  obtain ⟨W, hW⟩ : ∃ W, ((w.alloc (.cells #[.bool fold, .bool dot] tFl)).alloc (.cells reZ tRe)).alloc (.cells (reZ.setIfInBounds 0 (.int .i64 2)) tRe) = W := ⟨_, rfl⟩
  have hWs : W.heap.size = w.heap.size + 1 + 1 + 1 := by rw [← hW]; simp
  have kW : Kp (fun _ => False) w W := by rw [← hW]; exact (((Kp.refl _ _).alloc _).alloc _).alloc _
  have f0 : FS w.heap.size fold dot W := by
    unfold FS
    rw [← hW, Lib.alloc_old _ _ _ (by simp; omega), Lib.alloc_old _ _ _ (by simp)]; exact heap_alloc_new w _
  have z0 : W.heap[w.heap.size + 1]? = some (.cells reZ tRe (0, 0)) := by
    rw [← hW, Lib.alloc_old _ _ _ (by simp)]; have := heap_alloc_new (w.alloc (.cells #[.bool fold, .bool dot] tFl)) (.cells reZ tRe); simpa using this
  have g0 : W.heap[w.heap.size + 1 + 1]? = some (.cells (reC 2 noV (.slice none 0 0) 0 0) tRe (0, 0)) := by
    have h1 := heap_alloc_new ((w.alloc (.cells #[.bool fold, .bool dot] tFl)).alloc (.cells reZ tRe)) (.cells (reZ.setIfInBounds 0 (.int .i64 2)) tRe)
    have h2 : ((w.alloc (.cells #[.bool fold, .bool dot] tFl)).alloc (.cells reZ tRe)).heap.size = w.heap.size + 1 + 1 := by simp
    rw [h2, hW] at h1
    exact h1
  rw [hW, ← hWs, storeRe _ W.heap.size reZ ((reZ.toList.set 0 (.int .i64 3)).set 129 (.slice (some ⟨w.heap.size + 1 + 1, 0, none⟩) 1 1)) (heap_alloc_new W _) rfl rfl (oneC_re3 _ rfl), re3_eq, World.setRow_alloc_new]
  obtain ⟨V, hV⟩ : ∃ V, W.alloc (.cells (reC 3 noV (.slice (some ⟨w.heap.size + 1 + 1, 0, none⟩) 1 1) 0 0) tRe) = V := ⟨_, rfl⟩
  have hAL : AL w.heap.size rb w.heap.size (w.heap.size + 1) W.heap.size (w.heap.size + 1 + 1) 1 (.slice none 0 0) (reC 2 noV (.slice none 0 0) 0 0) [] [] s i fold dot .nil .nil w V := by
    have kV : Kp (fun _ => False) W V := by rw [← hV]; exact (Kp.refl _ _).alloc _
    have hrl := (HR.out.cells).2.2.2.2.2
    have gV : V.heap[w.heap.size + 1 + 1]? = some (.cells (reC 2 noV (.slice none 0 0) 0 0) tRe (0, 0)) := kV.heap id g0
    refine ⟨HR.out.kept (kW.trans kV) id, kV.heap id f0, kV.heap id z0, ?_, (kW.trans kV).false_mono, gV, ⟨rfl, .inr ⟨_, 1, _, rfl, by omega, gV, Nat.le_refl _, by decide, rfl, ?_⟩⟩, ⟨rfl, .inl ⟨rfl, rfl⟩⟩, rfl, rfl, ⟨by omega, by omega, by omega⟩, (fun p hp => by cases hp), ⟨hrl, Nat.le_refl _, by omega, by omega, rfl⟩, by omega⟩
    · rw [← hV]; exact heap_alloc_new W _
    · rw [List.take_of_length_le (by show _ ≤ _; exact Nat.le_refl 132)]; rfl
  have HAL := Lib.hid hAL
  rw [hV]
  clear hAL hV f0 z0 g0 kW hW
  go_wp2_with fail
  rename_i K hK
  have HK := Lib.hid hK
  clear hK
  refine wp_loop_rounds (steps g + 1) ?_
  refine HG.out w.heap.size rb w.heap.size (w.heap.size + 1) W.heap.size _ _ _ _ _ _ s i fold dot _ _ w V _ _ l (steps g + 1) ?_ HAL.out hs (Nat.zero_le _) (Nat.zero_le _) HM.out HL.out hok (hct.imp id (fun c => ⟨c, HR.out.noTab⟩)) (Nat.lt_succ_self _) ?_
  · rw [hWs]; exact ⟨rfl, rfl, rfl, rfl, rfl⟩
  · intro n a' w' g1' c1' lv' r1' aa' ks' f2 d2 A' K' hF' hAL' hfo
    refine HK.out _ _ ?_
    exact al7_walk hF' (hAL'.drewN n) hfo
end Go.Proofs.YtonifkkdokaooaaFmt

/- Walks: group: brackets. -/
namespace Go.Proofs.YtonifkkdokaooaaFmt
open Go.RowKit
open Re (Fo G Su Ato)
set_option linter.unusedVariables false

theorem nmL_lt : ∀ k c, c ∈ Re.nmL k → c < 128 := by
  intro k c h
  have : ∀ k, k ≤ 12 → ∀ c ∈ Re.nmL k, c < 128 := by decide
  by_cases hk : k ≤ 12
  · exact this k hk c h
  · have : Re.nmL k = [] := by
      unfold Re.nmL
      split <;> first | omega | rfl
    rw [this] at h; cases h
theorem prI_lt : ∀ i : Re.CI, i.ok = true → ∀ c ∈ Re.prI i, c < 128
  | .ch c, h, d, hd => by
    simp [Re.CI.ok, Re.chOk] at h
    simp [Re.prI] at hd
    omega
  | .rng a b, h, d, hd => by
    simp [Re.CI.ok, Re.chOk] at h
    simp [Re.prI] at hd
    omega
  | .nm k, h, d, hd => by
    simp only [Re.prI, List.mem_cons, List.mem_append, List.not_mem_nil, or_false] at hd
    rcases hd with e | e | e | e | e
    · omega
    · omega
    · exact nmL_lt k d e
    · omega
    · omega
theorem prIs_lt : ∀ is : List Re.CI, Re.isOk is = true → ∀ c ∈ Re.prIs is, c < 128
  | [], _, c, hc => by cases hc
  | i :: r, h, c, hc => by
    simp only [Re.isOk, Bool.and_eq_true] at h
    simp only [Re.prIs, List.mem_append] at hc
    rcases hc with hc | hc
    · exact prI_lt i h.1 c hc
    · exact prIs_lt r h.2 c hc
theorem prA_lt (a : Ato) (h : a.ok = true) : ∀ c ∈ Re.prA a, c < 128 := by
  intro c hc
  cases a with
  | lit d => simp [Re.Ato.ok, Re.litOk] at h; simp [Re.prA] at hc; omega
  | esc d => simp [Re.Ato.ok, Re.escOk] at h; simp [Re.prA] at hc; omega
  | dot => simp [Re.prA] at hc; omega
  | beg => simp [Re.prA] at hc; omega
  | fin => simp [Re.prA] at hc; omega
  | cls neg is =>
    simp only [Re.Ato.ok, Bool.and_eq_true] at h
    simp only [Re.prA, List.mem_cons, List.mem_append, List.not_mem_nil, or_false] at hc
    rcases hc with e | e | e | e
    · omega
    · cases neg <;> simp at e; omega
    · exact prIs_lt is h.1 c e
    · omega
theorem prS_lt (q : Su) : ∀ c ∈ Re.prS q, c < 128 := by
  intro c hc
  cases q <;> simp [Re.prS] at hc <;> omega
theorem pr_lt : ∀ g : G, g.ok = true → ∀ c ∈ Re.pr g, c < 128
  | .done, _, c, hc => by cases hc
  | .bar r, h, c, hc => by
    simp only [Re.pr, List.mem_cons] at hc
    rcases hc with e | hc
    · omega
    · exact pr_lt r h c hc
  | .ato a q r, h, c, hc => by
    simp only [G.ok, Bool.and_eq_true] at h
    simp only [Re.pr, List.mem_append] at hc
    rcases hc with hc | hc | hc
    · exact prA_lt a h.1 c hc
    · exact prS_lt q c hc
    · exact pr_lt r h.2 c hc
  | .grp i q r, h, c, hc => by
    simp only [G.ok, Bool.and_eq_true] at h
    simp only [Re.pr, List.mem_cons, List.mem_append] at hc
    rcases hc with e | hc | e | hc | hc
    · omega
    · exact pr_lt i h.1 c hc
    · omega
    · exact prS_lt q c hc
    · exact pr_lt r h.2 c hc
  | .flg i u r, h, c, hc => by
    simp only [Re.pr, Re.prF, List.cons_append, List.mem_cons, List.mem_append] at hc
    rcases hc with e | e | e | hc | hc
    · omega
    · omega
    · omega
    · cases i <;> cases u <;> simp at hc <;> omega
    · exact pr_lt r h c hc
/-- what follows in a text of g has no sign of how often at its head -/
theorem hd_of (g : G) (l : List UInt8) (h : g.ok = true) (hl : l = [] ∨ ∃ l', l = UInt8.ofNat 41 :: l') : Hd (bs (Re.pr g) ++ l) := by
  cases hg : Re.pr g with
  | nil =>
    rcases hl with rfl | ⟨l', rfl⟩
    · exact .inl rfl
    · exact .inr ⟨41, l', rfl, by omega, by omega, by omega, by omega, by omega⟩
  | cons c r =>
    have hh := Re.hd_pr g [] h rfl
    have hc := pr_lt g h c (by rw [hg]; simp)
    rw [hg] at hh
    simp only [List.cons_append, Re.hdOk, Bool.not_eq_true', Bool.or_eq_false_iff, beq_eq_false_iff_ne] at hh
    exact .inr ⟨c, bs r ++ l, rfl, hc, hh.1.1.1, hh.1.1.2, hh.1.2, hh.2⟩
set_option maxHeartbeats 4000000 in
set_option maxRecDepth 100000 in
theorem group_in (g : G) (hA : AltOK g) (rb fb : Nat) (s : ByteArray) (i : Nat) (l : List UInt8) (fold dot : Bool) (w : World) (hr : RS rb s i true w) (hf : FS fb fold dot w) (hs : s.size ≤ 274877906944) (hm : Rm s i (bs (Re.pr g) ++ (UInt8.ofNat 41 :: l))) (hok : g.ok = true) (hct : noC g = true ∨ CT w) :
    Calls Tryf.prog 57 #[.pointer (some ⟨rb, 0, none⟩), .pointer (some ⟨fb, 0, none⟩)] w (RdPost (· = rb) rb s (i + (Re.pr g).length + 1) 3 Re.no128 (Re.lists g fold dot) 0 0 w) := by
  have hz := zeroRe
  obtain ⟨f0, f1, hfl⟩ := hf.cells
  have N63 := Lib.hid (hd_of g (UInt8.ofNat 41 :: l) hok (.inr ⟨l, rfl⟩)).no63
  have HR := Lib.hid hr
  have HM := Lib.hid hm
  have HA := Lib.hid hA
  have HF := Lib.hid hf
  clear hr hm hA hf
  go_enter Tryf.func57, Tryf.ntmps57
  go_wp2_with fail
  obtain ⟨W, hW⟩ : ∃ W, (w.alloc (.cells reZ tRe)).alloc (.cells #[.bool fold, .bool dot] tFl) = W := ⟨_, rfl⟩
  have hWs : W.heap.size = w.heap.size + 1 + 1 := by rw [← hW]; simp
  have kW : Kp (fun _ => False) w W := by rw [← hW]; exact ((Kp.refl _ _).alloc _).alloc _
  have z0 : W.heap[w.heap.size]? = some (.cells reZ tRe (0, 0)) := by
    rw [← hW, Lib.alloc_old _ _ _ (by simp)]; exact heap_alloc_new w _
  have fl0 : FS (w.heap.size + 1) fold dot W := by
    unfold FS
    rw [← hW]; have := heap_alloc_new (w.alloc (.cells reZ tRe)) (.cells #[.bool fold, .bool dot] tFl); simpa using this
  obtain ⟨e0, e1, _⟩ := fl0.cells
  have hrw : RS rb s i true W := HR.out.kept kW id
  rw [hW]
  refine (skip_f rb s _ i true W _ hrw (by omega) (by decide) HM.out N63.out).mono ?_
  rintro e w1 ⟨rfl, n, rfl⟩
  have HW1 := Lib.hid (hrw.drew n)
  clear hW fl0 f0 f1 hfl
  go_wp2_with fail
  refine (HA.out rb s i (UInt8.ofNat 41 :: l) fold dot _ HW1.out hs HM.out (.inr ⟨l, rfl⟩) hok (hct.imp id (fun c => c.kept (Kp.drewN n kW) (fun _ h => h.elim)))).mono ?_
  rintro e w2 ⟨c, rfl, hn, hr2, hk2⟩
  have hrl : rb < w.heap.size := HR.out.cells.2.2.2.2.2
  have kWw : Kp (· = rb) W w2 := (Kp.drewN n (Kp.refl _ W)).trans hk2
  have z2 : w2.heap[w.heap.size]? = some (.cells reZ tRe (0, 0)) := kWw.heap (by show ¬ w.heap.size = rb; omega) z0
  have szw := kWw.size
  have HN := Lib.hid (hn.mono (Q := fun g => w.heap.size ≤ g ∧ g ≠ w.heap.size) (fun g hg _ => by have hg : W.heap.size ≤ g := hg; omega))
  have HK2 := Lib.hid (kW.false_mono.trans kWw : Kp (· = rb) w w2)
  have HR2 := Lib.hid hr2
  have HC := Lib.hid hn.size
  have H1 := Lib.hid hn.oneC
  clear hn hk2 hr2 kWw
  go_wp2_with fail
  have ec : c.size = 132 := HC.out
  rw [storeRe (w2.alloc (.cells reZ tRe)) w2.heap.size reZ _ (heap_alloc_new w2 _) rfl (by rw [Array.length_toList, ec]) H1.out, World.setRow_alloc_new]
  have kV : Kp (fun _ => False) w2 (w2.alloc (.cells c tRe)) := (Kp.refl _ _).alloc _
  obtain ⟨V, hV⟩ : ∃ V, w2.alloc (.cells c tRe) = V := ⟨_, rfl⟩
  have zV : V.heap[w.heap.size]? = some (.cells reZ tRe (0, 0)) := by rw [← hV]; exact kV.heap id z2
  have cV : V.heap[w2.heap.size]? = some (.cells c tRe (0, 0)) := by rw [← hV]; exact heap_alloc_new w2 _
  have HNV : Hid (Nd (fun g => w.heap.size ≤ g ∧ g ≠ w.heap.size) V 3 Re.no128 (Re.lists g fold dot) 0 0 c) := Lib.hid (by rw [← hV]; exact HN.out.kept kV (fun _ _ => id))
  have HRV : Hid (RS rb s (i + (Re.pr g).length) true V) := Lib.hid (by rw [← hV]; exact HR2.out.kept kV id)
  have HKV : Hid (Kp (· = rb) w V) := Lib.hid (by rw [← hV]; exact HK2.out.trans kV.false_mono)
  have HZV := Lib.hid zV
  have HCV := Lib.hid cV
  have hm2 : Rm s (i + (Re.pr g).length) (UInt8.ofNat 41 :: l) := by
    have := HM.out.app
    simpa [bs] using this
  have HM2 := Lib.hid hm2
  simp only [Array.toArray_toList]
  rw [hV]
  clear hV zV cV ec hm2 kV z2 z0 e0 e1
  go_wp2_with fail
  refine (skip_t rb s ⟨#[41]⟩ (i + (Re.pr g).length) true V l HRV.out (by omega) HM2.out).mono ?_
  rintro e w3 ⟨rfl, hr3, hk3⟩
  have z3 : w3.heap[w.heap.size]? = some (.cells reZ tRe (0, 0)) := hk3.heap (by show ¬ w.heap.size = rb; omega) HZV.out
  have c3 : w3.heap[w2.heap.size]? = some (.cells c tRe (0, 0)) := hk3.heap (by show ¬ w2.heap.size = rb; omega) HCV.out
  have n3 := HNV.out.kept hk3 (fun g hg => by show ¬ g = rb; omega)
  have hpost : RdPost (· = rb) rb s (i + (Re.pr g).length + 1) 3 Re.no128 (Re.lists g fold dot) 0 0 w (.returned (.agg c)) (w3.setRow w.heap.size c) := by
    have kz : Kp (fun x => x = w.heap.size) w3 (w3.setRow w.heap.size c) := Kp.setRow (X := fun x => x = w.heap.size) (g := w.heap.size) (Kp.refl _ w3) (.inl rfl) _
    exact ⟨c, rfl, (n3.kept kz (fun x hx => hx.2)).mono (fun x hx _ => hx.1), hr3.kept kz (by show ¬ rb = w.heap.size; omega), (HKV.out.trans hk3).seq' kz (fun x hx _ => by show ¬ x = w.heap.size; omega)⟩
  have HP := Lib.hid hpost
  have HZ3 := Lib.hid z3
  have HC3 := Lib.hid c3
  clear hr3 hk3 z3 c3 n3 hpost
  go_upto_region 23 with fail
  refine wp_region_list ?_
  refine wpList_load_row rfl tRe _ rfl w2.heap.size rfl tRe c (0, 0) _ HC3.out Tryf.underlying29 rfl (by rw [sizeRe, HC.out]) ?_
  refine wpList_store_row rfl tRe _ _ rfl w.heap.size c rfl rfl tRe reZ HZ3.out (by rw [sizeRe, HC.out]) (by rw [HC.out]; rfl) (Array.all_eq_true_iff_forall_mem.2 (fun v hv => H1.out v (by simpa using hv))) ?_
  refine wpList_nil ?_
  go_wp2
  exact bodyPost_ret (v := .agg c) (resultRe Tryf.results57 _ _ w.heap.size c rfl (setRow_heap _ _ reZ _ tRe (0, 0) HZ3.out) HC.out) rfl HP.out
end Go.Proofs.YtonifkkdokaooaaFmt

/- Walks: atom: brackets; all rounds over a text of things without classes and signs. -/
namespace Go.Proofs.YtonifkkdokaooaaFmt
open Go.RowKit
open Re (Fo G Su Ato)
set_option linter.unusedVariables false

/-- the value is stored into the result's block -/
theorem atom_store {rb fb : Nat} {s : ByteArray} {j : Nat} {f2 d2 : Bool} {k : Nat} {set : List Bool} {kids : Fo} {w V : World} {c : Array Value} {tmps : Array Value}
    (hn : Nd (fun g => w.heap.size ≤ g ∧ g ≠ w.heap.size) V k set kids 0 0 c) (hr : RS rb s j true V) (hf : FS fb f2 d2 V) (hk : Kp (XR rb fb) w V) (hz : V.heap[w.heap.size]? = some (.cells reZ tRe (0, 0))) (hrl : rb < w.heap.size) (hfl : fb < w.heap.size)
    (hp : tmps.getD 4 undef = .pointer (some ⟨w.heap.size, 0, none⟩)) :
    bodyPost Tryf.prog Tryf.f37 (AmPost rb fb s j f2 d2 k set kids w) .ret ⟨tmps, []⟩ (V.setRow w.heap.size c) := by
  have kz : Kp (fun x => x = w.heap.size) V (V.setRow w.heap.size c) := Kp.setRow (X := fun x => x = w.heap.size) (g := w.heap.size) (Kp.refl _ V) (.inl rfl) _
  refine bodyPost_ret (v := .agg c) (resultRe Tryf.results37 _ _ w.heap.size _ hp (setRow_heap _ _ reZ _ tRe (0, 0) hz) hn.size) rfl ⟨c, rfl, (hn.kept kz (fun x hx => hx.2)).mono (fun x hx _ => hx.1), hr.kept kz (by show ¬ rb = w.heap.size; omega), kz.heap (by show ¬ fb = w.heap.size; omega) hf, hk.seq' kz (fun x hx _ => by show ¬ x = w.heap.size; omega)⟩
set_option maxHeartbeats 4000000 in
set_option maxRecDepth 100000 in
theorem atom_par (rb fb : Nat) (s : ByteArray) (i j : Nat) (r : List UInt8) (fold dot f2 d2 : Bool) (k : Nat) (set : List Bool) (kids : Fo) (w : World) (h : RS rb s i true w) (hf : FS fb fold dot w) (hs : s.size ≤ 4611686018427387904) (hm : Rm s i (UInt8.ofNat 40 :: r))
    (hG : ∀ V, Kp (· = rb) w V → RS rb s (i + 1) true V → FS fb fold dot V → Calls Tryf.prog 57 #[.pointer (some ⟨rb, 0, none⟩), .pointer (some ⟨fb, 0, none⟩)] V (AmPost rb fb s j f2 d2 k set kids V)) :
    Calls Tryf.prog 37 #[.pointer (some ⟨rb, 0, none⟩), .pointer (some ⟨fb, 0, none⟩)] w (AmPost rb fb s j f2 d2 k set kids w) := by
  have hz := zeroRe
  have hfl := hf.cells.2.2
  have hrl := h.cells.2.2.2.2.2
  have hne : fb ≠ rb := blk_ne hf h (by decide)
  have HM0 : Hid (Mid rb s i w (w.alloc (.cells reZ tRe))) := Lib.hid (Mid.start h)
  have HR := Lib.hid hm
  have HF := Lib.hid hf
  have HG := Lib.hid hG
  clear h hm hf hG
  go_enter Tryf.func37, Tryf.ntmps37
  go_wp2_with fail
  refine (skip_t rb s ⟨#[40]⟩ i true _ _ HM0.out.1 hs HR.out).mono ?_
  rintro e w1 ⟨rfl, hr1, hk1⟩
  have HM := Lib.hid (HM0.out.call hrl hr1 hk1)
  clear hr1 hk1
  go_wp2_with fail
  refine (HG.out w1 HM.out.2.1 HM.out.1 (HF.out.mid hne HM.out)).mono ?_
  rintro e w2 ⟨c, rfl, hn, hr2, hf2, hk2⟩
  have z1 := (Array.getElem?_eq_some_iff.1 HM.out.2.2).1
  have z2 : w2.heap[w.heap.size]? = some (.cells reZ tRe (0, 0)) := hk2.heap (by rintro (e | e) <;> omega) HM.out.2.2
  have HZ := Lib.hid z2
  have HN := Lib.hid (hn.mono (Q := fun g => w.heap.size ≤ g ∧ g ≠ w.heap.size) (fun g hg _ => by omega))
  have HR2 := Lib.hid hr2
  have HF2 := Lib.hid hf2
  have HK2 : Hid (Kp (XR rb fb) w w2) := Lib.hid ((HM.out.2.1.mono (fun x _ hx => .inl hx)).trans hk2)
  have ec : c.size = 132 := HN.out.size
  clear hn hr2 hf2 hk2 z2
  go_wp2_with fail
  rw [storeRe w2 w.heap.size reZ _ HZ.out rfl (by rw [Array.length_toList, ec]) HN.out.oneC]
  simp only [Array.toArray_toList]
  clear ec
  go_wp2
  exact atom_store HN.out HR2.out HF2.out HK2.out HZ.out hrl hfl rfl
theorem atom_grp (g : G) (hA : AltOK g) (rb fb : Nat) (s : ByteArray) (i : Nat) (l : List UInt8) (fold dot : Bool) (w : World) (h : RS rb s i true w) (hf : FS fb fold dot w) (hs : s.size ≤ 274877906944) (hm : Rm s i (UInt8.ofNat 40 :: (bs (Re.pr g) ++ (UInt8.ofNat 41 :: l)))) (hok : g.ok = true) (hct : noC g = true ∨ CT w) :
    Calls Tryf.prog 37 #[.pointer (some ⟨rb, 0, none⟩), .pointer (some ⟨fb, 0, none⟩)] w (AmPost rb fb s (i + 1 + (Re.pr g).length + 1) fold dot 3 Re.no128 (Re.lists g fold dot) w) := by
  refine atom_par rb fb s i _ _ fold dot fold dot 3 Re.no128 (Re.lists g fold dot) w h hf (by omega) hm (fun V hkV hr hfV => ?_)
  have hne : fb ≠ rb := blk_ne hfV hr (by decide)
  refine (group_in g hA rb fb s (i + 1) l fold dot V hr hfV hs hm.tail hok (hct.imp id (fun c => c.kept hkV (fun b hb => by rw [show b = rb from hb]; exact h.noTab)))).mono ?_
  rintro e V' ⟨c, he, hn, hr', hk⟩
  exact ⟨c, he, hn, hr', hk.heap hne hfV, hk.mono (fun x _ hx => .inl hx)⟩
def noF : G → Bool
  | .done => true
  | .bar r => noF r
  | .ato _ _ r => noF r
  | .grp i _ r => noF i && noF r
  | .flg _ _ _ => false
def ClsOK : Prop := ∀ (rb fb : Nat) (s : ByteArray) (i : Nat) (neg : Bool) (is : List Re.CI) (r : List UInt8) (fold dot : Bool) (w : World), RS rb s i true w → FS fb fold dot w → s.size ≤ 274877906944 → Rm s i (bs (Re.prA (.cls neg is)) ++ r) → (Ato.cls neg is).ok = true → CT w →
  Calls Tryf.prog 37 #[.pointer (some ⟨rb, 0, none⟩), .pointer (some ⟨fb, 0, none⟩)] w (AmPost rb fb s (i + (Re.prA (.cls neg is)).length) fold dot (Re.ndA fold dot (.cls neg is)).1 (Re.ndA fold dot (.cls neg is)).2 .nil w)
def FlgOK : Prop := ∀ (rb fb : Nat) (s : ByteArray) (i : Nat) (fi fu : Bool) (r : List UInt8) (fold dot : Bool) (w : World), RS rb s i true w → FS fb fold dot w → s.size ≤ 274877906944 → Rm s i (bs (Re.prF fi fu) ++ r) →
  Calls Tryf.prog 37 #[.pointer (some ⟨rb, 0, none⟩), .pointer (some ⟨fb, 0, none⟩)] w (AmPost rb fb s (i + (Re.prF fi fu).length) (fold || fi) true 2 Re.no128 .nil w)
theorem ato_head (a : Ato) (h : a.ok = true) : ∃ c r, Re.prA a = c :: r ∧ c < 128 ∧ c ≠ 41 ∧ c ≠ 124 := by
  cases a with
  | lit d => simp [Re.Ato.ok, Re.litOk] at h; exact ⟨d, [], rfl, h.1, by omega, by omega⟩
  | esc d => exact ⟨92, [d], rfl, by omega, by omega, by omega⟩
  | dot => exact ⟨46, [], rfl, by omega, by omega, by omega⟩
  | beg => exact ⟨94, [], rfl, by omega, by omega, by omega⟩
  | fin => exact ⟨36, [], rfl, by omega, by omega, by omega⟩
  | cls neg is => exact ⟨91, _, rfl, by omega, by omega, by omega⟩
theorem ofNat_ne {c n : Nat} (hc : c < 128) (hn : n < 128) (h : c ≠ n) : UInt8.ofNat c ≠ UInt8.ofNat n := fun e => of_ne (c := n) (n := c) hn hc (fun e => h e.symm) e
theorem Rm.len {s : ByteArray} {i : Nat} {l : List Nat} {r : List UInt8} (h : Rm s i (bs l ++ r)) : i + l.length ≤ s.size := by
  have := h.size
  simp [bs] at this; omega
theorem Rm.bs {s : ByteArray} {i : Nat} {l : List Nat} {r : List UInt8} (h : Rm s i (bs l ++ r)) : Rm s (i + l.length) r := by
  have := h.app
  simpa [Go.Proofs.YtonifkkdokaooaaFmt.bs] using this
theorem rounds_ok : ∀ g : G, (noC g = true ∨ ClsOK) → (noF g = true ∨ FlgOK) → RoundsOK g
  | .done, _, _ => by
    intro B rb fb z ob g1 c1 lv r1 aa ks s j fold dot A K w0 w Q a l fuel hF h hs hA hK hm hl hok hct hfu hQ
    obtain ⟨f, rfl⟩ : ∃ f, fuel = f + 1 := ⟨fuel - 1, by simp [steps] at hfu; omega⟩
    refine round_end hF h.r hm hl (fun n a' hF' => hQ n a' w g1 c1 lv r1 aa ks fold dot A K hF' h ?_)
    simp [Re.ms, Fo.app_nil]
  | .bar r, hC, hFl => by
    intro B rb fb z ob g1 c1 lv r1 aa ks s j fold dot A K w0 w Q a l fuel hF h hs hA hK hm hl hok hct hfu hQ
    obtain ⟨f, rfl⟩ : ∃ f, fuel = f + 1 := ⟨fuel - 1, by simp [steps] at hfu; omega⟩
    have hm' : Rm s j (UInt8.ofNat 124 :: (bs (Re.pr r) ++ l)) := hm
    have hsz := hm'.size
    simp only [List.length_cons] at hsz
    refine round_bar hF h hs (by omega) hm' (fun a' w' g cap r1' aa' hF' h' => ?_)
    refine rounds_ok r hC hFl B rb fb z ob g cap _ r1' aa' [] s (j + 1) fold dot _ .nil w0 w' Q a' l f hF' h' hs (by rw [Fo.len_app]; simp only [Fo.len]; omega) (Nat.zero_le _) hm'.tail hl hok hct (by simp [steps] at hfu; omega) ?_
    intro n a2 w2 g1' c1' lv' r2 aa2 ks2 f2 d2 A' K' hF2 h2 hfo
    refine hQ n a2 w2 g1' c1' lv' r2 aa2 ks2 f2 d2 A' K' hF2 (by rw [show (Re.pr (.bar r)).length = (Re.pr r).length + 1 from rfl, Nat.add_comm _ 1, ← Nat.add_assoc]; exact h2) ?_
    rw [hfo, Fo.app_assoc]
    simp [Re.ms, Fo.app, Fo.app_nil]
  | .ato a q r, hC, hFl => by
    intro B rb fb z ob g1 c1 lv r1 aa ks s j fold dot A K w0 w Q a0 l fuel hF h hs hA hK hm hl hok hct hfu hQ
    obtain ⟨f, rfl⟩ : ∃ f, fuel = f + 1 := ⟨fuel - 1, by simp [steps] at hfu; omega⟩
    simp only [G.ok, Bool.and_eq_true] at hok
    obtain ⟨c, rr, hp, hc, h41, h124⟩ := ato_head a hok.1
    have hm1 : Rm s j (bs (Re.prA a) ++ (bs (Re.prS q) ++ (bs (Re.pr r) ++ l))) := by simpa [Re.pr, bs_app] using hm
    have hm0 : Rm s j (UInt8.ofNat c :: (bs rr ++ (bs (Re.prS q) ++ (bs (Re.pr r) ++ l)))) := by rw [hp] at hm1; exact hm1
    have hsz := hm0.size
    simp only [List.length_cons] at hsz
    have hl1 := hm1.len
    have hpl : 1 ≤ (Re.prA a).length := by rw [hp]; simp
    have hC2 : noC r = true ∨ ClsOK := hC.imp (fun e => by simp only [noC, Bool.and_eq_true] at e; exact e.2) id
    refine round_item (k := (Re.ndA fold dot a).1) (set := (Re.ndA fold dot a).2) (kids := .nil) (q := q) (f2 := fold) (d2 := dot) (j1 := j + (Re.prA a).length) (r := bs (Re.pr r) ++ l) hF h hs (by omega) (by omega) hm0 (ofNat_ne hc (by omega) h41) (fun e => ofNat_ne hc (by omega) h124 e.symm) ?_ hm1.bs (hd_of r l hok.2 hl) ?_
    · intro V hkV hr hf
      by_cases hcl : ∃ n is, a = .cls n is
      · obtain ⟨n, is, rfl⟩ := hcl
        rcases hC with e | e
        · simp [noC] at e
        · refine e rb fb s j n is _ fold dot V hr hf hs hm1 hok.1 ?_
          rcases hct with h0 | ⟨ct, nt⟩
          · simp [noC] at h0
          · exact ct.kept hkV (fun b hb => by rw [show b = rb from hb]; exact nt)
      · exact atom_ato rb fb s j a _ fold dot V hr hf (by omega) hm1 hok.1 (fun n is e => hcl ⟨n, is, e⟩)
    · intro a' w' g cap r1' ks' hF' h'
      have hl2 := hm1.bs.len
      refine rounds_ok r hC2 hFl B rb fb z ob g1 c1 _ r1' aa ks' s _ fold dot A _ w0 w' Q a' l f hF' h' hs (by omega) (by rw [Fo.len_app]; simp only [Nod.fo, Fo.len]; omega) hm1.bs.bs hl hok.2 (hct.imp (fun e => by simp only [noC, Bool.and_eq_true] at e; exact e.2) id) (by simp [steps] at hfu; omega) ?_
      intro n a2 w2 g1' c1' lv' r2 aa2 ks2 f2 d2 A' K' hF2 h2 hfo
      refine hQ n a2 w2 g1' c1' lv' r2 aa2 ks2 f2 d2 A' K' hF2 (by rw [show (Re.pr (.ato a q r)).length = (Re.prA a).length + ((Re.prS q).length + (Re.pr r).length) from by simp [Re.pr], ← Nat.add_assoc, ← Nat.add_assoc]; exact h2) ?_
      rw [hfo, Fo.app_assoc]
      simp only [Re.ms, sfx_eq, Nod.fo, Fo.app]
  | .grp i q r, hC, hFl => by
    intro B rb fb z ob g1 c1 lv r1 aa ks s j fold dot A K w0 w Q a0 l fuel hF h hs hA hK hm hl hok hct hfu hQ
    obtain ⟨f, rfl⟩ : ∃ f, fuel = f + 1 := ⟨fuel - 1, by simp [steps] at hfu; omega⟩
    simp only [G.ok, Bool.and_eq_true] at hok
    have hm1 : Rm s j (UInt8.ofNat 40 :: (bs (Re.pr i) ++ (UInt8.ofNat 41 :: (bs (Re.prS q) ++ (bs (Re.pr r) ++ l))))) := by simpa [Re.pr, bs] using hm
    have hsz := hm1.size
    simp only [List.length_cons, List.length_append] at hsz
    have hC1 : noC i = true ∨ ClsOK := hC.imp (fun e => by simp only [noC, Bool.and_eq_true] at e; exact e.1) id
    have hC2 : noC r = true ∨ ClsOK := hC.imp (fun e => by simp only [noC, Bool.and_eq_true] at e; exact e.2) id
    have hF1 : noF i = true ∨ FlgOK := hFl.imp (fun e => by simp only [noF, Bool.and_eq_true] at e; exact e.1) id
    have hF2 : noF r = true ∨ FlgOK := hFl.imp (fun e => by simp only [noF, Bool.and_eq_true] at e; exact e.2) id
    have hi := alt_of i (rounds_ok i hC1 hF1)
    have hq : Rm s (j + 1 + (Re.pr i).length + 1) (bs (Re.prS q) ++ (bs (Re.pr r) ++ l)) := hm1.tail.bs.tail
    refine round_item (k := 3) (set := Re.no128) (kids := Re.lists i fold dot) (q := q) (f2 := fold) (d2 := dot) (j1 := j + 1 + (Re.pr i).length + 1) (r := bs (Re.pr r) ++ l) hF h hs (by omega) (by omega) hm1 (by decide) (by decide) ?_ hq (hd_of r l hok.2 hl) ?_
    · intro V hkV hr hf
      exact atom_grp i hi rb fb s j _ fold dot V hr hf hs hm1 hok.1 (hct.imp (fun e => by simp only [noC, Bool.and_eq_true] at e; exact e.1) (fun c => c.1.kept hkV (fun b hb => by rw [show b = rb from hb]; exact c.2)))
    · intro a' w' g cap r1' ks' hF' h'
      refine rounds_ok r hC2 hF2 B rb fb z ob g1 c1 _ r1' aa ks' s _ fold dot A _ w0 w' Q a' l f hF' h' hs (by omega) (by rw [Fo.len_app]; simp only [Nod.fo, Fo.len]; omega) hq.bs hl hok.2 (hct.imp (fun e => by simp only [noC, Bool.and_eq_true] at e; exact e.2) id) (by simp [steps] at hfu; omega) ?_
      intro n a2 w2 g1' c1' lv' r2 aa2 ks2 f2 d2 A' K' hF2 h2 hfo
      refine hQ n a2 w2 g1' c1' lv' r2 aa2 ks2 f2 d2 A' K' hF2 (by rw [show j + (Re.pr (.grp i q r)).length = j + 1 + (Re.pr i).length + 1 + (Re.prS q).length + (Re.pr r).length from by simp [Re.pr]; omega]; exact h2) ?_
      rw [hfo, Fo.app_assoc]
      simp only [Re.ms, sfx_eq, Nod.fo, Fo.app, Re.lists]
  | .flg fi fu r, hC, hFl => by
    intro B rb fb z ob g1 c1 lv r1 aa ks s j fold dot A K w0 w Q a0 l fuel hF h hs hA hK hm hl hok hct hfu hQ
    obtain ⟨f, rfl⟩ : ∃ f, fuel = f + 1 := ⟨fuel - 1, by simp [steps] at hfu; omega⟩
    have hFo : FlgOK := by rcases hFl with e | e; cases e; exact e
    have hm1 : Rm s j (bs (Re.prF fi fu) ++ (bs (Re.prS .one) ++ (bs (Re.pr r) ++ l))) := by simpa [Re.pr, bs, Re.prS] using hm
    have hm0 : Rm s j (UInt8.ofNat 40 :: (bs (Re.prF fi fu).tail ++ (bs (Re.prS .one) ++ (bs (Re.pr r) ++ l)))) := hm1
    have hsz := hm0.size
    simp only [List.length_cons, List.length_append] at hsz
    have hpl : 1 ≤ (Re.prF fi fu).length := by simp [Re.prF]
    have hl1 := hm1.len
    refine round_item (k := 2) (set := Re.no128) (kids := .nil) (q := .one) (f2 := fold || fi) (d2 := true) (j1 := j + (Re.prF fi fu).length) (r := bs (Re.pr r) ++ l) hF h hs (by omega) (by omega) hm0 (by decide) (by decide) ?_ hm1.bs (hd_of r l hok hl) ?_
    · intro V hkV hr hf
      exact hFo rb fb s j fi fu _ fold dot V hr hf hs hm1
    · intro a' w' g cap r1' ks' hF' h'
      refine rounds_ok r hC (.inr hFo) B rb fb z ob g1 c1 _ r1' aa ks' s _ (fold || fi) true A _ w0 w' Q a' l f hF' h' hs (by omega) (by rw [Fo.len_app]; simp only [Nod.fo, Fo.len]; omega) hm1.bs.bs hl hok hct (by simp [steps] at hfu; omega) ?_
      intro n a2 w2 g1' c1' lv' r2 aa2 ks2 f2 d2 A' K' hF2 h2 hfo
      refine hQ n a2 w2 g1' c1' lv' r2 aa2 ks2 f2 d2 A' K' hF2 (by rw [show j + (Re.pr (.flg fi fu r)).length = j + (Re.prF fi fu).length + (Re.prS .one).length + (Re.pr r).length from by simp [Re.pr, Re.prS]; omega]; exact h2) ?_
      rw [hfo, Fo.app_assoc]
      simp only [Re.ms, sfxN, Nod.fo, Fo.app]
end Go.Proofs.YtonifkkdokaooaaFmt

/- Walks: single, classOf. -/
namespace Go.Proofs.YtonifkkdokaooaaFmt
open Go.RowKit
set_option linter.unusedVariables false

set_option maxRecDepth 100000 in
set_option maxHeartbeats 1000000 in
theorem single_any (rb : Nat) (s : ByteArray) (i : Nat) (ok : Bool) (c : Nat) (r : List UInt8) (w : World) (h : RS rb s i ok w) (hs : s.size ≤ 4611686018427387904) (hr : Rm s i (UInt8.ofNat c :: r)) (hc : c < 128) (h92 : c ≠ 92) :
    Calls Tryf.prog 74 #[.pointer (some ⟨rb, 0, none⟩)] w fun e w' => e = .returned (.tuple #[.int .u8 c, .bool true]) ∧ RS rb s (i + 1) ok w' ∧ Kp (· = rb) w w' := by
  obtain ⟨c0, c1, c2, f1, f2, hlt⟩ := h.cells
  obtain ⟨hi, hat⟩ := hr.at
  have hsi : (((s[i]'hi).toNat : Nat) : Int) = (c : Int) := by rw [hat]; simp; omega
  have hle : decide (s.size ≤ i) = false := by simp; omega
  have hcl : decide ((c : Int) < 128) = true := by simp; omega
  have hw : IntKind.i64.wrap ((i : Int) + 1) = (i : Int) + 1 := IntWalk.i64_in _ (by omega)
  have hno : (ByteArray.mk #[92]).data.toList.isPrefixOf (UInt8.ofNat c :: r) = false := by
    have hne : (92 : UInt8) ≠ UInt8.ofNat c := by
      intro e
      have := congrArg UInt8.toNat e
      simp at this; omega
    simp [List.isPrefixOf, hne]
  have HS : Hid (∀ V, RS rb s i ok V → Calls Tryf.prog 35 #[.pointer (some ⟨rb, 0, none⟩), .string ⟨#[92]⟩] V fun e w' => e = .returned (.bool false) ∧ ∃ n, w' = V.drewN n) := Lib.hid fun V hV => skip_f rb s ⟨#[92]⟩ i ok V _ hV hs (by decide) hr hno
  have H := Lib.hid h
  clear h hr hat hno
  go_enter Tryf.func74, Tryf.ntmps74
  go_wp2
  go_quiet (fail)
  rename Nat => n1
  go_wp2_with fail
  refine (HS.out _ (H.out.drew n1)).mono ?_
  rintro e w1 ⟨rfl, n2, rfl⟩
  go_wp2
  go_quiet (fail)
  rename Nat => n3
  go_wp2
  go_ret2
  refine ⟨rfl, ?_, ?_⟩
  · exact RS.set (j := i + 1) (H.out.drew _)
  · exact Kp.setCell (X := (· = rb)) (p := ⟨rb, 1, none⟩) (Kp.drewN _ (Kp.refl _ w)) (.inl rfl) _
/-- the table of ranges lies there -/
abbrev RG (w : World) : Prop := TB 3 rgL w
theorem rg_len (k : Nat) : (rgL k).length = 2 * (Re.clsR k).length := by
  have key : ∀ l : List (Nat × Nat), (l.flatMap fun p => [p.1, p.2]).length = 2 * l.length := by
    intro l
    induction l with
    | nil => rfl
    | cons p l ih => simp only [List.flatMap_cons, List.length_append, List.length_cons, List.length_nil, ih]; omega
  exact key _
theorem rg_at (k j : Nat) (hj : j < (Re.clsR k).length) : (rgL k)[2 * j]? = some (Re.clsR k)[j].1 ∧ (rgL k)[2 * j + 1]? = some (Re.clsR k)[j].2 := by
  have key : ∀ (l : List (Nat × Nat)) (j : Nat) (hj : j < l.length), (l.flatMap fun p => [p.1, p.2])[2 * j]? = some l[j].1 ∧ (l.flatMap fun p => [p.1, p.2])[2 * j + 1]? = some l[j].2 := by
    intro l
    induction l with
    | nil => intro j hj; cases hj
    | cons p l ih =>
      intro j hj
      cases j with
      | zero => simp
      | succ j =>
        have := ih j (by simpa using hj)
        have e : 2 * (j + 1) = 2 * j + 1 + 1 := by omega
        rw [e]
        simpa using this
  exact key _ j hj
theorem clsR_len (k : Nat) : (Re.clsR k).length ≤ 4 := by
  unfold Re.clsR
  split <;> simp
theorem clsR_lt (k : Nat) : ∀ p ∈ Re.clsR k, p.1 < 256 ∧ p.2 < 256 := by
  intro p hp
  unfold Re.clsR at hp
  split at hp <;> simp at hp <;> (try omega) <;> (rcases hp with rfl | rfl | rfl | rfl <;> simp) <;> omega
theorem cls_take (k j c : Nat) (hj : j < (Re.clsR k).length) (h : ((Re.clsR k).take j).any (fun r => decide (r.1 ≤ c) && decide (c ≤ r.2)) = false) (h2 : (decide ((Re.clsR k)[j].1 ≤ c) && decide (c ≤ (Re.clsR k)[j].2)) = false) : ((Re.clsR k).take (j + 1)).any (fun r => decide (r.1 ≤ c) && decide (c ≤ r.2)) = false := by
  rw [List.take_add_one, List.getElem?_eq_getElem hj, List.any_append, h]
  simpa using h2
set_option maxRecDepth 100000 in
set_option maxHeartbeats 1000000 in
theorem classOf_any (k c : Nat) (w : World) (hR : RG w) (hk : k < 13) (hc : c < 256) : Calls Tryf.prog 73 #[.int .i64 k, .int .u8 c] w fun e w' => e = .returned (.bool (Re.clsB k c)) ∧ w = w' := by
  obtain ⟨cb, co, cc, g0, g1⟩ := hR
  have g2 := g1 k hk
  obtain ⟨s, hs, hsz, hat⟩ : ∃ s : ByteArray, s = ByteArray.mk (bs (rgL k)).toArray ∧ s.size = 2 * (Re.clsR k).length ∧ ∀ j (hj : j < (Re.clsR k).length), ∃ (h1 : 2 * j < s.size) (h2 : 2 * j + 1 < s.size), (s[2 * j]).toNat = (Re.clsR k)[j].1 ∧ (s[2 * j + 1]).toNat = (Re.clsR k)[j].2 := by
    refine ⟨_, rfl, ?_, ?_⟩
    · show (bs (rgL k)).toArray.size = _
      simp [bs, rg_len]
    · intro j hj
      have hl : (bs (rgL k)).length = 2 * (Re.clsR k).length := by simp [bs, rg_len]
      obtain ⟨a1, a2⟩ := rg_at k j hj
      have hlt := clsR_lt k _ (List.getElem_mem hj)
      have e1 : (bs (rgL k))[2 * j]? = some (UInt8.ofNat (Re.clsR k)[j].1) := by simp only [bs, List.getElem?_map, a1]; rfl
      have e2 : (bs (rgL k))[2 * j + 1]? = some (UInt8.ofNat (Re.clsR k)[j].2) := by simp only [bs, List.getElem?_map, a2]; rfl
      refine ⟨by show _ < (bs (rgL k)).toArray.size; simp; omega, by show _ < (bs (rgL k)).toArray.size; simp; omega, ?_, ?_⟩
      · show ((bs (rgL k)).toArray[2 * j]'(by simp; omega)).toNat = _
        have := List.getElem?_eq_some_iff.1 e1
        rw [List.getElem_toArray, this.2]; simp; omega
      · show ((bs (rgL k)).toArray[2 * j + 1]'(by simp; omega)).toNat = _
        have := List.getElem?_eq_some_iff.1 e2
        rw [List.getElem_toArray, this.2]; simp; omega
  rw [← hs] at g2
  have hl4 := clsR_len k
  have HA := Lib.hid hat
  have HS := Lib.hid hsz
  have i0 : (0 : Int) ≤ (k : Int) := by omega
  have i1 : (k : Int) < 13 := by omega
  clear hs hat hsz g1
  go_enter Tryf.func73, Tryf.ntmps73
  go_wp2
  go_loopg [6] (Re.clsR k).length (fun g s6 wx => ∃ j p : Nat, j + g = (Re.clsR k).length ∧ p = 2 * j ∧ s6 = .int .i64 p ∧ ((Re.clsR k).take j).any (fun r => decide (r.1 ≤ c) && decide (c ≤ r.2)) = false ∧ wx = w)
  case atStart => exact ⟨0, 0, by omega, rfl, rfl, by simp, rfl⟩
  case round =>
    obtain ⟨j, p, hjg, hp, rfl, hno, rfl⟩ := hrel
    have hsz := HS.out
    cases gk with
    | zero =>
      obtain rfl : j = (Re.clsR k).length := by omega
      have hb : Re.clsB k c = false := by rw [List.take_of_length_le (Nat.le_refl _)] at hno; exact hno
      have d1 : decide ((p : Int) < (s.size : Int)) = false := by simp; omega
      have hsp : s.size ≤ p := by omega
      clear hno hsz hp
      go_wp2
      go_ret
      exact ⟨by rw [hb]; rfl, rfl⟩
    | succ g =>
      have hj : j < (Re.clsR k).length := by omega
      obtain ⟨h1, h2, hlo, hhi⟩ := HA.out j hj
      subst hp
      have i2 : ((2 * j : Nat) : Int) < (s.size : Int) := by omega
      obtain ⟨p, hp⟩ : ∃ p, 2 * j = p := ⟨_, rfl⟩
      have hstep := cls_take k j c hj hno
      have hany : (decide ((Re.clsR k)[j].1 ≤ c) && decide (c ≤ (Re.clsR k)[j].2)) = true → Re.clsB k c = true := fun h => List.any_eq_true.2 ⟨_, List.getElem_mem hj, h⟩
      have HST := Lib.hid hstep
      have HAN := Lib.hid hany
      simp only [hp] at h1 h2 hlo hhi i2
      have n1 : (((s[p]'h1).toNat : Nat) : Int) = ((Re.clsR k)[j].1 : Int) := by rw [hlo]
      have n2 : (((s[p + 1]'h2).toNat : Nat) : Int) = ((Re.clsR k)[j].2 : Int) := by rw [hhi]
      have i3 : (0 : Int) ≤ (p : Int) := by omega
      have i4 : (p : Int) + 1 < (s.size : Int) := by omega
      have i5 : (0 : Int) ≤ (p : Int) + 1 := by omega
      have i6 : ((p : Int) + 1).toNat = p + 1 := by omega
      rw [hp]
      generalize hL : (Re.clsR k)[j].1 = lo at *
      generalize hH : (Re.clsR k)[j].2 = hi at *
      clear hstep hany hno hlo hhi hsz
      by_cases c1 : lo ≤ c
      · have e1 : decide (lo ≤ c) = true := by simpa using c1
        by_cases c2 : c ≤ hi
        · have e2 : decide (c ≤ hi) = true := by simpa using c2
          have hb := HAN.out (by rw [e1, e2]; rfl)
          go_wp2
          go_ret
          exact ⟨by rw [hb]; rfl, rfl⟩
        · have e2 : decide (c ≤ hi) = false := by simpa using c2
          have hs2 := HST.out (by rw [e1, e2]; rfl)
          go_wp2
          go_roundg g
          case measure => omega
          case rel => exact ⟨j + 1, p + 2, by omega, by omega, by go_num, hs2, rfl⟩
      · have e1 : decide (lo ≤ c) = false := by simpa using c1
        have hs2 := HST.out (by rw [e1]; rfl)
        go_wp2
        go_roundg g
        case measure => omega
        case rel => exact ⟨j + 1, p + 2, by omega, by omega, by go_num, hs2, rfl⟩
end Go.Proofs.YtonifkkdokaooaaFmt

/- Walks: the set of a class while it is read; the function that reads it. -/
namespace Go.Proofs.YtonifkkdokaooaaFmt
open Go.RowKit
set_option linter.unusedVariables false

abbrev tIn : TypeId := 26
/-- the cells of a set while a class is read -/
def inC (h : Nat → Bool) : Array Value := ((List.range 128).map fun c => Value.bool (h c)).toArray
theorem inC_size (h : Nat → Bool) : (inC h).size = 128 := by simp [inC]
theorem inC_get (h : Nat → Bool) (c : Nat) (hc : c < 128) : (inC h)[c]? = some (.bool (h c)) := by simp [inC, hc]
theorem inC_set (h : Nat → Bool) (c : Nat) (b : Bool) (hc : c < 128) : (inC h).setIfInBounds c (.bool b) = inC (fun x => if x = c then b else h x) := by
  apply Array.ext_getElem?
  intro j
  rw [Array.getElem?_setIfInBounds, inC_size]
  by_cases e : c = j
  · subst e
    rw [if_pos rfl, if_pos hc, inC_get _ c hc, if_pos rfl]
  · rw [if_neg e]
    by_cases hj : j < 128
    · rw [inC_get _ j hj, inC_get _ j hj, if_neg (fun h => e h.symm)]
    · rw [Array.getElem?_eq_none (by rw [inC_size]; omega), Array.getElem?_eq_none (by rw [inC_size]; omega)]
theorem inC_no : inC (fun _ => false) = Array.replicate 128 (.bool false) := by
  apply Array.ext_getElem?
  intro j
  by_cases hj : j < 128
  · rw [inC_get _ j hj]; simp [hj]
  · rw [Array.getElem?_eq_none (by rw [inC_size]; omega), Array.getElem?_eq_none (by simp; omega)]
/-- the set lies there -/
def IN (ib : Nat) (h : Nat → Bool) (w : World) : Prop := w.heap[ib]? = some (.cells (inC h) 4 (0, 0))
set_option maxHeartbeats 400000 in
theorem cls1_any (ib : Nat) (h : Nat → Bool) (t : TypeId) (c : Nat) (w : World) (hI : w.heap[ib]? = some (.cells (inC h) t (0, 0))) (hc : c < 128) :
    Calls Tryf.prog 72 #[.int .u8 c, .pointer (some ⟨ib, 0, none⟩)] w fun e w' => e = .returned (.bool (h c)) ∧ w = w' := by
  have g : w.cell? ⟨ib, c, none⟩ = some (.bool (h c)) := by rw [Lib.cell_of_heap hI]; exact inC_get h c hc
  have i0 : (0 : Int) ≤ (c : Int) := by omega
  have i1 : (c : Int) < 128 := by omega
  go_enter Tryf.func72, Tryf.ntmps72
  go_wp2
  go_ret
  exact ⟨rfl, rfl⟩
end Go.Proofs.YtonifkkdokaooaaFmt

/- Walk: class: the state of its loop, its frame. Printed by gen_cl.py. -/
namespace Go.Proofs.YtonifkkdokaooaaFmt
open Go.RowKit
open Re (CI)
set_option linter.unusedVariables false

theorem inC_zero : Tryf.zeroCells26 = inC (fun _ => false) := by kernel_rfl
/-- in the loop over the items: the reader, the flags' box, the set while it is read, the result's block -/
structure CL (rb zb ib fb : Nat) (s : ByteArray) (j : Nat) (fold dot : Bool) (h : Nat → Bool) (w0 V : World) : Prop where
  r : RS rb s j true V
  f : FS fb fold dot V
  z : V.heap[zb]? = some (.cells reZ tRe (0, 0))
  i : V.heap[ib]? = some (.cells (inC h) tIn (0, 0))
  k : Kp (· = rb) w0 V
  ct : CT V
  b : rb < w0.heap.size ∧ w0.heap.size ≤ fb ∧ w0.heap.size ≤ zb ∧ w0.heap.size ≤ ib ∧ fb ≠ zb ∧ fb ≠ ib ∧ zb ≠ ib
section
variable {rb zb ib fb : Nat} {s : ByteArray} {j : Nat} {fold dot : Bool} {h : Nat → Bool} {w0 V : World}
theorem CL.call {j' : Nat} {w1 : World} (H : CL rb zb ib fb s j fold dot h w0 V) (hr : RS rb s j' true w1) (k : Kp (· = rb) V w1) : CL rb zb ib fb s j' fold dot h w0 w1 := by
  obtain ⟨b1, b2, b3, b4, b5, b6, b7⟩ := H.b
  exact ⟨hr, k.heap (by show ¬ fb = rb; omega) H.f, k.heap (by show ¬ zb = rb; omega) H.z, k.heap (by show ¬ ib = rb; omega) H.i, H.k.trans k, H.ct.kept k (fun b hb => by rw [show b = rb from hb]; exact H.r.noTab), H.b⟩
theorem CL.drew (n : Nat) (H : CL rb zb ib fb s j fold dot h w0 V) : CL rb zb ib fb s j fold dot h w0 (V.drewN n) := H.call (H.r.drew n) (Kp.drewN n (Kp.refl _ V))
theorem CL.at (j' : Nat) (H : CL rb zb ib fb s j fold dot h w0 V) : CL rb zb ib fb s j' fold dot h w0 (V.setCell ⟨rb, 1, none⟩ (.int .i64 j')) :=
  H.call (RS.set H.r) (Kp.setCell (X := (· = rb)) (p := ⟨rb, 1, none⟩) (Kp.refl _ V) (.inl rfl) _)
theorem inC_noTab {ib : Nat} {h : Nat → Bool} {V : World} {t : TypeId} (e : V.heap[ib]? = some (.cells (inC h) t (0, 0))) : noTab ib V := by
  refine ⟨fun a n c e1 => ?_, fun o t e1 => ?_⟩
  · rw [Lib.cell_of_heap e, inC_get _ 0 (by omega)] at e1; cases e1
  · rw [Lib.cell_of_heap e] at e1
    by_cases ho : o + 1 < 128
    · rw [inC_get _ _ ho] at e1; cases e1
    · rw [Array.getElem?_eq_none (by rw [inC_size]; omega)] at e1; cases e1
theorem CL.put {c : Nat} {b : Bool} (H : CL rb zb ib fb s j fold dot h w0 V) (hc : c < 128) : CL rb zb ib fb s j fold dot (fun x => if x = c then b else h x) w0 (V.setCell ⟨ib, c, none⟩ (.bool b)) := by
  obtain ⟨b1, b2, b3, b4, b5, b6, b7⟩ := H.b
  have k : Kp (· = ib) V (V.setCell ⟨ib, c, none⟩ (.bool b)) := Kp.setCell (X := (· = ib)) (p := ⟨ib, c, none⟩) (Kp.refl _ V) (.inl rfl) _
  refine ⟨H.r.kept k (by show ¬ rb = ib; omega), k.heap (by show ¬ fb = ib; omega) H.f, k.heap (by show ¬ zb = ib; omega) H.z, ?_, H.k.setCell (p := ⟨ib, c, none⟩) (.inr b4) _, H.ct.kept k (fun x hx => by rw [show x = ib from hx]; exact inC_noTab H.i), H.b⟩
  rw [heap_setCell_same _ _ _ _ _ _ H.i, inC_set _ _ _ hc]
theorem CL.eqv {h' : Nat → Bool} (H : CL rb zb ib fb s j fold dot h w0 V) (e : ∀ c, c < 128 → h c = h' c) : CL rb zb ib fb s j fold dot h' w0 V := by
  have e2 : inC h = inC h' := by
    apply Array.ext_getElem?
    intro i
    by_cases hi : i < 128
    · rw [inC_get _ i hi, inC_get _ i hi, e i hi]
    · rw [Array.getElem?_eq_none (by rw [inC_size]; omega), Array.getElem?_eq_none (by rw [inC_size]; omega)]
  exact ⟨H.r, H.f, H.z, e2 ▸ H.i, H.k, H.ct, H.b⟩
end
def dl2 : Code → Code | .seq _ b => b | c => c
def dbl' : Code → Code | .block _ c => c | c => c
def dlo : Code → Code | .loop c => c | c => c
noncomputable def clB : Code := Tryf.f58.body.getD .skip
noncomputable def clL : Code := dlo (dbl' (dl2 (dl2 (dl2 (dl2 clB)))))
/-- the frame in class -/
structure CF (rb fb zb ib : Nat) (nt fst : Bool) (a : Array Value) : Prop where
  sz : a.size = 269
  s0 : a[0]? = some (.pointer (some ⟨rb, 0, none⟩))
  s3 : a[3]? = some (.pointer (some ⟨fb, 0, none⟩))
  s4 : a[4]? = some (.pointer (some ⟨zb, 0, none⟩))
  s5 : a[5]? = some (.bool nt)
  s6 : a[6]? = some (.pointer (some ⟨ib, 0, none⟩))
  s7 : a[7]? = some (.bool fst)
set_option maxRecDepth 1000000 in
theorem lit269 (a : Array Value) (h : a.size = 269) : ∃ x : Nat → Value, a = #[x 0, x 1, x 2, x 3, x 4, x 5, x 6, x 7, x 8, x 9, x 10, x 11, x 12, x 13, x 14, x 15, x 16, x 17, x 18, x 19, x 20, x 21, x 22, x 23, x 24, x 25, x 26, x 27, x 28, x 29, x 30, x 31, x 32, x 33, x 34, x 35, x 36, x 37, x 38, x 39, x 40, x 41, x 42, x 43, x 44, x 45, x 46, x 47, x 48, x 49, x 50, x 51, x 52, x 53, x 54, x 55, x 56, x 57, x 58, x 59, x 60, x 61, x 62, x 63, x 64, x 65, x 66, x 67, x 68, x 69, x 70, x 71, x 72, x 73, x 74, x 75, x 76, x 77, x 78, x 79, x 80, x 81, x 82, x 83, x 84, x 85, x 86, x 87, x 88, x 89, x 90, x 91, x 92, x 93, x 94, x 95, x 96, x 97, x 98, x 99, x 100, x 101, x 102, x 103, x 104, x 105, x 106, x 107, x 108, x 109, x 110, x 111, x 112, x 113, x 114, x 115, x 116, x 117, x 118, x 119, x 120, x 121, x 122, x 123, x 124, x 125, x 126, x 127, x 128, x 129, x 130, x 131, x 132, x 133, x 134, x 135, x 136, x 137, x 138, x 139, x 140, x 141, x 142, x 143, x 144, x 145, x 146, x 147, x 148, x 149, x 150, x 151, x 152, x 153, x 154, x 155, x 156, x 157, x 158, x 159, x 160, x 161, x 162, x 163, x 164, x 165, x 166, x 167, x 168, x 169, x 170, x 171, x 172, x 173, x 174, x 175, x 176, x 177, x 178, x 179, x 180, x 181, x 182, x 183, x 184, x 185, x 186, x 187, x 188, x 189, x 190, x 191, x 192, x 193, x 194, x 195, x 196, x 197, x 198, x 199, x 200, x 201, x 202, x 203, x 204, x 205, x 206, x 207, x 208, x 209, x 210, x 211, x 212, x 213, x 214, x 215, x 216, x 217, x 218, x 219, x 220, x 221, x 222, x 223, x 224, x 225, x 226, x 227, x 228, x 229, x 230, x 231, x 232, x 233, x 234, x 235, x 236, x 237, x 238, x 239, x 240, x 241, x 242, x 243, x 244, x 245, x 246, x 247, x 248, x 249, x 250, x 251, x 252, x 253, x 254, x 255, x 256, x 257, x 258, x 259, x 260, x 261, x 262, x 263, x 264, x 265, x 266, x 267, x 268] := arr_rlst a 269 h
set_option maxRecDepth 1000000 in
set_option maxHeartbeats 4000000 in
theorem CF.open {rb fb zb ib : Nat} {nt fst : Bool} {a : Array Value} {C : Array Value → Prop} (h : CF rb fb zb ib nt fst a)
    (hx : ∀ x : Nat → Value, C #[.pointer (some ⟨rb, 0, none⟩), x 1, x 2, .pointer (some ⟨fb, 0, none⟩), .pointer (some ⟨zb, 0, none⟩), .bool nt, .pointer (some ⟨ib, 0, none⟩), .bool fst, x 8, x 9, x 10, x 11, x 12, x 13, x 14, x 15, x 16, x 17, x 18, x 19, x 20, x 21, x 22, x 23, x 24, x 25, x 26, x 27, x 28, x 29, x 30, x 31, x 32, x 33, x 34, x 35, x 36, x 37, x 38, x 39, x 40, x 41, x 42, x 43, x 44, x 45, x 46, x 47, x 48, x 49, x 50, x 51, x 52, x 53, x 54, x 55, x 56, x 57, x 58, x 59, x 60, x 61, x 62, x 63, x 64, x 65, x 66, x 67, x 68, x 69, x 70, x 71, x 72, x 73, x 74, x 75, x 76, x 77, x 78, x 79, x 80, x 81, x 82, x 83, x 84, x 85, x 86, x 87, x 88, x 89, x 90, x 91, x 92, x 93, x 94, x 95, x 96, x 97, x 98, x 99, x 100, x 101, x 102, x 103, x 104, x 105, x 106, x 107, x 108, x 109, x 110, x 111, x 112, x 113, x 114, x 115, x 116, x 117, x 118, x 119, x 120, x 121, x 122, x 123, x 124, x 125, x 126, x 127, x 128, x 129, x 130, x 131, x 132, x 133, x 134, x 135, x 136, x 137, x 138, x 139, x 140, x 141, x 142, x 143, x 144, x 145, x 146, x 147, x 148, x 149, x 150, x 151, x 152, x 153, x 154, x 155, x 156, x 157, x 158, x 159, x 160, x 161, x 162, x 163, x 164, x 165, x 166, x 167, x 168, x 169, x 170, x 171, x 172, x 173, x 174, x 175, x 176, x 177, x 178, x 179, x 180, x 181, x 182, x 183, x 184, x 185, x 186, x 187, x 188, x 189, x 190, x 191, x 192, x 193, x 194, x 195, x 196, x 197, x 198, x 199, x 200, x 201, x 202, x 203, x 204, x 205, x 206, x 207, x 208, x 209, x 210, x 211, x 212, x 213, x 214, x 215, x 216, x 217, x 218, x 219, x 220, x 221, x 222, x 223, x 224, x 225, x 226, x 227, x 228, x 229, x 230, x 231, x 232, x 233, x 234, x 235, x 236, x 237, x 238, x 239, x 240, x 241, x 242, x 243, x 244, x 245, x 246, x 247, x 248, x 249, x 250, x 251, x 252, x 253, x 254, x 255, x 256, x 257, x 258, x 259, x 260, x 261, x 262, x 263, x 264, x 265, x 266, x 267, x 268]) : C a := by
  obtain ⟨x, rfl⟩ := lit269 a h.sz
  have h0 : x 0 = _ := Option.some.inj h.s0
  have h3 : x 3 = _ := Option.some.inj h.s3
  have h4 : x 4 = _ := Option.some.inj h.s4
  have h5 : x 5 = _ := Option.some.inj h.s5
  have h6 : x 6 = _ := Option.some.inj h.s6
  have h7 : x 7 = _ := Option.some.inj h.s7
  rw [h0, h3, h4, h5, h6, h7]
  exact hx x
/-- more is left -/
theorem more_yes (rb : Nat) (s : ByteArray) (j : Nat) (c : UInt8) (r : List UInt8) (hm : Rm s j (c :: r)) : ∀ w, RS rb s j true w → Calls Tryf.prog 34 #[.pointer (some ⟨rb, 0, none⟩)] w fun e w' => e = .returned (.bool true) ∧ ∃ n, w' = w.drewN n := by
  intro w h
  obtain ⟨hi, _⟩ := hm.at
  have := more_any rb s j true w h
  rw [show decide ((j : Int) < (s.size : Int)) = true from by simp; omega] at this
  exact this
theorem enters72 : ∀ args w, (callFunc 72 args).run Tryf.prog w = .ok (.enter 72 args) w := Go.Proofs.enters_of Tryf.func72 (by kernel_rfl) rfl
end Go.Proofs.YtonifkkdokaooaaFmt

/- Walk: class: the round at the closing bracket. Printed by gen_cl.py. -/
namespace Go.Proofs.YtonifkkdokaooaaFmt
open Go.RowKit
open Re (CI)
set_option linter.unusedVariables false

theorem setL_congr (p q : Nat → Bool) (fold neg : Bool) (h : ∀ c, c < 128 → p c = q c) : Re.setL p fold neg = Re.setL q fold neg := by
  unfold Re.setL
  apply List.map_congr_left
  intro c hc
  have hc := List.mem_range.1 hc
  rw [h c hc, h _ (oth_lt hc)]
/-- how class ends -/
def CRet (rb zb : Nat) (s : ByteArray) (j : Nat) (set : List Bool) (w0 : World) (Q : Exit → Act → World → Prop) : Prop :=
  ∀ (a : Array Value) (V : World), a.size = 269 → a[4]? = some (.pointer (some ⟨zb, 0, none⟩)) → V.heap[zb]? = some (.cells (reC 1 (set.map .bool) (.slice none 0 0) 0 0) tRe (0, 0)) → RS rb s j true V → Kp (· = rb) w0 V → Q .ret ⟨a, []⟩ V
set_option maxHeartbeats 4000000 in
set_option maxRecDepth 1000000 in
theorem cl_end (rb fb zb ib : Nat) (nt : Bool) (s : ByteArray) (j : Nat) (r : List UInt8) (fold dot : Bool) (h : Nat → Bool) (w0 V : World) (Q : Exit → Act → World → Prop) (fuel : Nat) (a : Array Value)
    (hF : CF rb fb zb ib nt false a) (hC : CL rb zb ib fb s j fold dot h w0 V) (hs : s.size ≤ 274877906944) (hm : Rm s j (UInt8.ofNat 93 :: r)) (hQ : CRet rb zb s (j + 1) (Re.setL h fold nt) w0 Q) :
    Code.rounds Tryf.prog clL Q (fuel + 1) ⟨a, []⟩ V := by
  rw [rounds_succ]
  refine CF.open (C := fun a => Code.wp Tryf.prog clL _ ⟨a, []⟩ V) hF fun x => ?_
  have HQ := Lib.hid hQ
  have HC := Lib.hid hC
  have HM := Lib.hid hm
  have MY := Lib.hid (more_yes rb s j _ r hm)
  have EK := Lib.hid enters72
  clear hQ hC hF hm
  simp only [clL, clB, Tryf.f58, Option.getD_some, dl2, dbl', dlo]
  go_wp2_with fail
  refine (MY.out _ HC.out.r).mono ?_
  rintro e w1 ⟨rfl, n, rfl⟩
  go_wp2_with fail
  refine (skip_t rb s ⟨#[93]⟩ j true _ _ (HC.out.drew n).r (by omega) HM.out).mono ?_
  rintro e w1 ⟨rfl, hr1, hk1⟩
  have HC1 := Lib.hid ((HC.out.drew n).call hr1 hk1)
  obtain ⟨f0, f1, _⟩ := HC1.out.f.cells
  clear hr1 hk1
  go_wp2_with fail
  refine (setOf_any 72 (.pointer (some ⟨ib, 0, none⟩)) h fold dot nt w1 EK.out (fun c w' hc k => cls1_any ib h tIn c w' (k.heap id HC1.out.i) hc)).mono ?_
  rintro e w2 ⟨rfl, hb⟩
  have k2 : Kp (fun _ => False) w1 w2 := Kp.of_below hb
  have z2 := k2.heap id HC1.out.z
  have r2 := HC1.out.r.kept k2 id
  have K2 : Kp (· = rb) w0 w2 := HC1.out.k.trans k2.false_mono
  have HZ := Lib.hid z2
  have HR2 := Lib.hid r2
  have HK2 := Lib.hid K2
  have hbz : rb ≠ zb := by have := HC1.out.b; omega
  have hzz : w0.heap.size ≤ zb := HC1.out.b.2.2.1
  clear hb k2 z2 r2 K2 f0 f1
  go_wp2_with fail
  rw [storeRe _ zb reZ _ HZ.out rfl rfl (oneC_reC oneC_map rfl)]
  go_wp2
  refine HQ.out _ _ rfl rfl (setRow_heap _ _ reZ _ tRe (0, 0) HZ.out) ?_ (HK2.out.setRow (.inr hzz) _)
  unfold RS
  rw [setRow_other _ _ _ _ hbz]
  exact HR2.out
end Go.Proofs.YtonifkkdokaooaaFmt
