/- Joined by pack.py: RdQ, RdR, CT, RdS, RdT, RdU, RdV. -/
import Derived.Test.YtpfgmiocdgfniaaGreatFmtP26
import Derived.Test.YtpfgmiocdgfniaaGreatFmtP27
import Derived.Deep.CutBlock
import Derived.Deep.Cut
set_option linter.unusedVariables false
set_option maxHeartbeats 8000000
set_option maxRecDepth 1000000
namespace Go.Proofs.YtpfgmiocdgfniaaGreatFmt
open Go.RowKit
open Re (Fo G Su Ato)
def bs (l : List Nat) : List UInt8 := l.map UInt8.ofNat
theorem bs_app (a b : List Nat) : bs (a ++ b) = bs a ++ bs b := by simp [bs]
structure Nod where
  k : Nat
  set : List Bool
  kids : Fo
  l : Int
  m : Int
def Nod.fo (n : Nod) (r : Fo) : Fo := .cons n.k n.set n.kids n.l n.m r
def sfxN (q : Su) (k : Nat) (set : List Bool) (kids : Fo) : Nod :=
  match q with
  | .one => ⟨k, set, kids, 0, 0⟩
  | .star => ⟨4, Re.no128, .cons k set kids 0 0 .nil, 0, -1⟩
  | .plus => ⟨4, Re.no128, .cons k set kids 0 0 .nil, 1, -1⟩
  | .opt => ⟨4, Re.no128, .cons k set kids 0 0 .nil, 0, 1⟩
theorem sfx_eq (q : Su) (k : Nat) (set : List Bool) (kids r : Fo) : Re.sfx q k set kids r = (sfxN q k set kids).fo r := by cases q <;> rfl
def NdN (P : Nat → Prop) (w : World) (n : Nod) (c : Array Value) : Prop := Nd P w n.k n.set n.kids n.l n.m c
theorem Nd.times {B : Nat} {w w' : World} {k : Nat} {set : List Bool} {kids : Fo} {c : Array Value} {g : Nat} {l m : Int} (h : Nd (fun g => B ≤ g) w k set kids 0 0 c) {X : Nat → Prop} (kp : Kp X w w') (hX : ∀ g, B ≤ g → ¬ X g) (hg : w'.heap[g]? = some (.cells c tRe (0, 0))) (hb : B ≤ g) :
    Nd (fun g => B ≤ g) w' 4 Re.no128 (.cons k set kids 0 0 .nil) l m (reC 4 noV (.slice (some ⟨g, 0, none⟩) 1 1) l m) := by
  have h' := (h.kept kp hX).foC
  refine ⟨by simp [Re.no128, Re.falses], _, c.toList, by rw [noV_eq]; rfl, ⟨?_, .inr ⟨g, 1, c, rfl, hb, hg, Nat.le_refl _, by decide, ?_, ?_⟩⟩, h'⟩
  · have := h'.length; simpa using this
  · have := h.size; simpa using this
  · have := h.size; rw [List.take_of_length_le (by simp [this, Fo.len])]
theorem times_all (B rb : Nat) (s : ByteArray) (i : Nat) (q : Su) (r : List UInt8) (k : Nat) (set : List Bool) (kids : Fo) (c : Array Value) (w : World) (h : RS rb s i true w) (hs : s.size ≤ 4611686018427387904) (hr : Rm s i (bs (Re.prS q) ++ r)) (hd : Hd r)
    (hn : Nd (fun g => B ≤ g) w k set kids 0 0 c) (hB : B ≤ w.heap.size) (hrb : rb < B) :
    Calls Tryz.prog 33 #[.pointer (some ⟨rb, 0, none⟩), .agg c] w fun e w' => ∃ c', e = .returned (.agg c') ∧ NdN (fun g => B ≤ g) w' (sfxN q k set kids) c' ∧ RS rb s (i + (Re.prS q).length) true w' ∧ Kp (· = rb) w w' := by
  have hX : ∀ g, B ≤ g → ¬ g = rb := fun g hg => by omega
  have done : ∀ (l m : Int) e w', TqPost rb s (i + 1) c l m w e w' → ∃ c', e = .returned (.agg c') ∧ Nd (fun g => B ≤ g) w' 4 Re.no128 (.cons k set kids 0 0 .nil) l m c' ∧ RS rb s (i + 1) true w' ∧ Kp (· = rb) w w' := by
    rintro l m e w' ⟨g, he, hg, hcell, hr', hk⟩
    exact ⟨_, he, hn.times hk hX hcell (by omega), hr', hk⟩
  cases q with
  | one =>
    refine (times_one rb s i r c w h hs hr hd hn.size hn.oneC).mono ?_
    rintro e w' ⟨he, h1, h2⟩
    exact ⟨c, he, hn.kept h2 hX, h1, h2⟩
  | star => exact (times_star rb s i r c w h hs hr hd hn.size hn.oneC).mono (done 0 (-1))
  | plus => exact (times_plus rb s i r c w h hs hr hd hn.size hn.oneC).mono (done 1 (-1))
  | opt => exact (times_opt rb s i r c w h hs hr hd hn.size hn.oneC).mono (done 0 1)
def AmPost (rb fb : Nat) (s : ByteArray) (j : Nat) (f2 d2 : Bool) (k : Nat) (set : List Bool) (kids : Fo) (w : World) (e : Ending) (w' : World) : Prop :=
  ∃ c, e = .returned (.agg c) ∧ Nd (fun g => w.heap.size ≤ g) w' k set kids 0 0 c ∧ RS rb s j true w' ∧ FS fb f2 d2 w' ∧ Kp (XR rb fb) w w'
theorem AtPost.am {rb fb : Nat} {s : ByteArray} {j k : Nat} {f2 d2 : Bool} {set : List Bool} {w w' : World} {e : Ending} (h : AtPost rb s j k set w e w') (hl : set.length = 128) (hf : FS fb f2 d2 w) (hne : fb ≠ rb) : AmPost rb fb s j f2 d2 k set .nil w e w' :=
  ⟨_, h.1, Nd.one hl, h.2.1, h.2.2.heap hne hf, h.2.2.mono (fun x _ hx => .inl hx)⟩
theorem atom_ato (rb fb : Nat) (s : ByteArray) (i : Nat) (a : Ato) (r : List UInt8) (fold dot : Bool) (w : World) (h : RS rb s i true w) (hf : FS fb fold dot w) (hs : s.size ≤ 4611686018427387904) (hr : Rm s i (bs (Re.prA a) ++ r)) (ha : a.ok = true) (hc : ∀ n is, a ≠ .cls n is) :
    Calls Tryz.prog 34 #[.pointer (some ⟨rb, 0, none⟩), .pointer (some ⟨fb, 0, none⟩)] w (AmPost rb fb s (i + (Re.prA a).length) fold dot (Re.ndA fold dot a).1 (Re.ndA fold dot a).2 .nil w) := by
  have hne : fb ≠ rb := blk_ne hf h (by decide)
  have hl := Re.ndA_length fold dot a
  cases a with
  | lit c => exact (atom_lit rb fb s i c r fold dot w h hf hs hr ha).mono fun e w' hp => AtPost.am hp hl hf hne
  | esc c =>
    simp only [Re.Ato.ok, Re.escOk, Bool.and_eq_true, decide_eq_true_eq, Bool.not_eq_true'] at ha
    exact (atom_esc rb fb s i c r fold dot w h hf hs hr ha.1 ha.2).mono fun e w' hp => AtPost.am hp hl hf hne
  | dot => exact (atom_dot rb fb s i r fold dot w h hf hs hr).mono fun e w' hp => AtPost.am hp hl hf hne
  | beg => exact (atom_beg rb fb s i r fold dot w h hf hs hr).mono fun e w' hp => AtPost.am hp hl hf hne
  | fin => exact (atom_fin rb fb s i r fold dot w h hf hs hr).mono fun e w' hp => AtPost.am hp hl hf hne
  | cls n is => exact absurd rfl (hc n is)
end Go.Proofs.YtpfgmiocdgfniaaGreatFmt

namespace Go.Proofs.YtpfgmiocdgfniaaGreatFmt
open Go.RowKit
open Re (Fo G Su Ato)
theorem alL_eq : alL = .seq al2 (.block 1 (.seq al34 (.seq al5 al6))) := by kernel_rfl
theorem AF.six {rb fb z ob : Nat} {a : Array Value} (h : AF rb fb z ob a) : ∃ v6, a[6]? = some v6 :=
  ⟨a[6]'(by rw [h.sz]; decide), Array.getElem?_eq_getElem _⟩
theorem Kp.false_mono {X : Nat → Prop} {w w' : World} (h : Kp (fun _ => False) w w') : Kp X w w' := h.mono (fun _ _ h => h.elim)
theorem round_item {B rb fb z ob g1 c1 : Nat} {lv : Value} {r1 : Array Value} {aa ks : List Value} {s : ByteArray} {j j1 : Nat} {fold dot f2 d2 : Bool} {A K : Fo} {w0 w : World} {Q : Exit → Act → World → Prop} {fuel : Nat} {a : Array Value}
    {k : Nat} {set : List Bool} {kids : Fo} {q : Su} {r : List UInt8} {x0 : UInt8} {r0 : List UInt8}
    (hF : AF rb fb z ob a) (h : AL B rb fb z ob g1 c1 lv r1 aa ks s j fold dot A K w0 w) (hs : s.size ≤ 274877906944) (hlA : A.len ≤ 549755813888) (hlK : K.len ≤ 549755813888) (hm : Rm s j (x0 :: r0)) (h41 : x0 ≠ UInt8.ofNat 41) (h124 : UInt8.ofNat 124 ≠ x0)
    (hA : ∀ V, Kp (· = rb) w0 V → RS rb s j true V → FS fb fold dot V → Calls Tryz.prog 34 #[.pointer (some ⟨rb, 0, none⟩), .pointer (some ⟨fb, 0, none⟩)] V (AmPost rb fb s j1 f2 d2 k set kids V))
    (hq : Rm s j1 (bs (Re.prS q) ++ r)) (hd : Hd r)
    (hN : ∀ a' w' g cap r1' ks', AF rb fb z ob a' → AL B rb fb z ob g1 c1 (.slice (some ⟨g, 0, none⟩) (K.len + 1) cap) r1' aa ks' s (j1 + (Re.prS q).length) f2 d2 A (K.app ((sfxN q k set kids).fo .nil)) w0 w' → Code.rounds Tryz.prog alL Q fuel ⟨a', []⟩ w') :
    Code.rounds Tryz.prog alL Q (fuel + 1) ⟨a, []⟩ w := by
  have hs2 : s.size ≤ 4611686018427387904 := by omega
  rw [rounds_succ, alL_eq]
  refine wp_seq ?_
  obtain ⟨v6, h6⟩ := hF.six
  refine al2_yes rb fb z ob s j x0 r0 w _ a v6 hF h6 h.r hm h41 (fun n a1 hF1 h61 => ?_)
  refine wp_block (wp_seq ?_)
  refine al34_no rb fb z ob s j x0 r0 _ _ a1 v6 hF1 h61 (h.r.drew n) hs2 hm h124 (fun m a2 hF2 h62 => ?_)
  obtain ⟨W, hW⟩ : ∃ W, (w.drewN n).drewN m = W := ⟨_, rfl⟩
  have kW : Kp (· = rb) w W := by rw [← hW]; exact Kp.drewN m (Kp.drewN n (Kp.refl _ w))
  have hW2 : AL B rb fb z ob g1 c1 lv r1 aa ks s j fold dot A K w0 W := h.kept0 (by rw [← hW]; exact (h.r.drew n).drew m) kW
  rw [hW]
  clear hW kW h hm
  refine wp_seq ?_
  refine al5_walk rb fb z ob g1 c1 A.len W _ a2 v6 hF2 h62 hW2.out.1 hlA (fun a3 hF3 h63 => ?_)
  obtain ⟨la, lc, rfl, hla⟩ := ownsRow_form hW2.ol
  obtain ⟨hl1, hl2, hl3, hl4, hbg⟩ := hW2.last
  obtain ⟨sb1, sb2, sb3, sb4, sb5⟩ := hW2.sb
  have hBW : B ≤ W.heap.size := by have := hW2.k.size; omega
  have flt : fb < W.heap.size := (Array.getElem?_eq_some_iff.1 hW2.f).1
  have hfr : fb ≠ rb := by omega
  have hxr : ∀ x, B ≤ x → x ≠ fb → ¬ XR rb fb x := fun x hx hne => by rintro (e | e) <;> omega
  refine al6_walk rb fb z ob g1 (A.len * 132) B la K.len lc ks r1 W _ a3 hF3 h63 hW2.row hl4 (hxr g1 hbg hW2.sg.2.2) (fun p hp => ?_) (by omega) flt hBW hW2.ol hlK
    (fun c V => Nd (fun g => W.heap.size ≤ g) V k set kids 0 0 c ∧ RS rb s j1 true V ∧ FS fb f2 d2 V ∧ Kp (XR rb fb) W V)
    (fun c V => NdN (fun g => W.heap.size ≤ g) V (sfxN q k set kids) c ∧ RS rb s (j1 + (Re.prS q).length) true V ∧ FS fb f2 d2 V) ?_ ?_ ?_ ?_ ?_
  · subst hp
    have := hW2.sl p.block rfl
    exact ⟨hxr _ (hla p rfl).1 this.2.2.2, this.1⟩
  · intro V kV
    refine (hA V (hW2.k.trans kV.false_mono) (hW2.r.kept kV id) (kV.heap id hW2.f)).mono ?_
    rintro e V' ⟨c, he, hn, hr, hf, hk⟩
    exact ⟨c, he, ⟨hn.mono (fun g hg _ => Nat.le_trans kV.size hg), hr, hf, kV.false_mono.trans hk⟩, hk⟩
  · rintro c V ⟨hn, hr, hf, hk⟩
    refine (times_all W.heap.size rb s j1 q r k set kids c V hr hs2 hq hd hn hk.size (by omega)).mono ?_
    rintro e V' ⟨c', he, hn', hr', hk'⟩
    exact ⟨c', he, ⟨hn', hr', hk'.heap hfr hf⟩, Nd.size hn', Nd.oneC hn', hk'.mono (fun x _ hx => .inl hx)⟩
  · rintro c V V' ⟨hn, hr, hf, hk⟩ k'
    exact ⟨hn.kept k' (fun _ _ => id), hr.kept k' id, k'.heap id hf, hk.trans k'.false_mono⟩
  · rintro c V V' ⟨hn, hr, hf⟩ k'
    exact ⟨Nd.kept hn k' (fun _ _ => id), hr.kept k' id, k'.heap id hf⟩
  · rintro c' W' w4 g cap a4 hF4 hk ⟨hn, hr, hf⟩ h4
    exact hN a4 w4 g cap _ _ hF4 (hW2.item hn hr hf hk h4)
theorem round_bar {B rb fb z ob g1 c1 : Nat} {lv : Value} {r1 : Array Value} {aa ks : List Value} {s : ByteArray} {j : Nat} {fold dot : Bool} {A K : Fo} {w0 w : World} {Q : Exit → Act → World → Prop} {fuel : Nat} {a : Array Value} {r : List UInt8}
    (hF : AF rb fb z ob a) (h : AL B rb fb z ob g1 c1 lv r1 aa ks s j fold dot A K w0 w) (hs : s.size ≤ 274877906944) (hlA : A.len ≤ 549755813888) (hm : Rm s j (UInt8.ofNat 124 :: r))
    (hN : ∀ a' w' g cap r1' aa', AF rb fb z ob a' → AL B rb fb z ob g cap (.slice none 0 0) r1' aa' [] s (j + 1) fold dot (A.app (.cons 2 Re.no128 K 0 0 .nil)) .nil w0 w' → Code.rounds Tryz.prog alL Q fuel ⟨a', []⟩ w') :
    Code.rounds Tryz.prog alL Q (fuel + 1) ⟨a, []⟩ w := by
  have hs2 : s.size ≤ 4611686018427387904 := by omega
  rw [rounds_succ, alL_eq]
  refine wp_seq ?_
  obtain ⟨v6, h6⟩ := hF.six
  refine al2_yes rb fb z ob s j (UInt8.ofNat 124) r w _ a v6 hF h6 h.r hm (by decide) (fun n a1 hF1 h61 => ?_)
  refine wp_block (wp_seq ?_)
  have kW : Kp (· = rb) w (w.drewN n) := Kp.drewN n (Kp.refl _ w)
  have hW2 := h.kept0 (h.r.drew n) kW
  obtain ⟨sb1, sb2, sb3, sb4, sb5⟩ := hW2.sb
  have hBW : B ≤ (w.drewN n).heap.size := by have := hW2.k.size; omega
  refine al34_bar B rb fb z ob g1 c1 A.len lv aa s j r _ _ a1 v6 hF1 h61 hW2.r hs2 hm hW2.ho hW2.own hlA hBW sb1 sb4 hW2.sg.1 (fun w1 w4 g cap a2 hF2 h62 hr1 hk1 h4 => ?_)
  obtain ⟨r1', h5⟩ := (hW2.kept0 hr1 hk1).bar h4
  exact hN a2 w4 g cap r1' _ hF2 h5
theorem round_end {rb fb z ob : Nat} {s : ByteArray} {j : Nat} {w : World} {Q : Exit → Act → World → Prop} {fuel : Nat} {a : Array Value} {l : List UInt8}
    (hF : AF rb fb z ob a) (hr : RS rb s j true w) (hm : Rm s j l) (hl : l = [] ∨ ∃ l', l = UInt8.ofNat 41 :: l') (hQ : ∀ n a', AF rb fb z ob a' → Q (.exit 0) ⟨a', []⟩ (w.drewN n)) : Code.rounds Tryz.prog alL Q (fuel + 1) ⟨a, []⟩ w := by
  rw [rounds_succ, alL_eq]
  refine wp_seq ?_
  obtain ⟨v6, h6⟩ := hF.six
  rcases hl with rfl | ⟨l', rfl⟩
  · exact al2_end rb fb z ob s j w _ a v6 hF h6 hr hm (fun n a' hF' => hQ n a' hF')
  · exact al2_par rb fb z ob s j l' w _ a v6 hF h6 hr hm (fun n a' hF' => hQ n a' hF')
end Go.Proofs.YtpfgmiocdgfniaaGreatFmt

namespace Go.Proofs.YtpfgmiocdgfniaaGreatFmt
open Go.RowKit
open Re (G)
def rgL (k : Nat) : List Nat := (Re.clsR k).flatMap fun p => [p.1, p.2]
def TB (g : Nat) (f : Nat → List Nat) (w : World) : Prop := ∃ cb co cc, w.cell? ⟨g, 0, none⟩ = some (.slice (some ⟨cb, co, none⟩) 13 cc) ∧ ∀ k, k < 13 → w.cell? ⟨cb, co + k, none⟩ = some (.string ⟨(bs (f k)).toArray⟩)
def noTab (b : Nat) (w : World) : Prop := (∀ a n c, w.cell? ⟨b, 0, none⟩ ≠ some (.slice a n c)) ∧ ∀ o s, w.cell? ⟨b, o + 1, none⟩ ≠ some (.string s)
theorem TB.kept {g : Nat} {f : Nat → List Nat} {X : Nat → Prop} {w w' : World} (h : TB g f w) (k : Kp X w w') (hX : ∀ b, X b → noTab b w) : TB g f w' := by
  obtain ⟨cb, co, cc, h1, h2⟩ := h
  refine ⟨cb, co, cc, k.cell (fun e => (hX _ e).1 _ _ _ h1) h1, fun j hj => k.cell (fun e => ?_) (h2 j hj)⟩
  exact (hX _ e).2 co _ (h2 1 (by omega))
theorem RS.noTab {rb : Nat} {s : ByteArray} {i : Nat} {ok : Bool} {w : World} (h : RS rb s i ok w) : noTab rb w := by
  unfold RS at h
  refine ⟨fun a n c e => ?_, fun o t e => ?_⟩
  · rw [Lib.cell_of_heap h] at e; cases e
  · rw [Lib.cell_of_heap h] at e
    match o, e with
    | 0, e => cases e
    | 1, e => cases e
    | o + 2, e => simp at e
theorem FS.noTab {fb : Nat} {fold dot : Bool} {w : World} (h : FS fb fold dot w) : noTab fb w := by
  unfold FS at h
  refine ⟨fun a n c e => ?_, fun o t e => ?_⟩
  · rw [Lib.cell_of_heap h] at e; cases e
  · rw [Lib.cell_of_heap h] at e
    match o, e with
    | 0, e => cases e
    | o + 1, e => simp at e
structure CT (w : World) : Prop where
  rg : TB 3 rgL w
  cn : TB 0 Re.nmL w
theorem CT.kept {X : Nat → Prop} {w w' : World} (h : CT w) (k : Kp X w w') (hX : ∀ b, X b → noTab b w) : CT w' := ⟨h.rg.kept k hX, h.cn.kept k hX⟩
def noC : G → Bool
  | .done => true
  | .bar r => noC r
  | .ato a _ r => (match a with | .cls _ _ => false | _ => true) && noC r
  | .grp i _ r => noC i && noC r
  | .flg _ _ r => noC r
end Go.Proofs.YtpfgmiocdgfniaaGreatFmt

namespace Go.Proofs.YtpfgmiocdgfniaaGreatFmt
open Go.RowKit
open Re (Fo G Su Ato)
section
variable {B rb fb z ob g1 c1 : Nat} {lv : Value} {r1 : Array Value} {aa ks : List Value} {s : ByteArray} {j : Nat} {fold dot : Bool} {A K : Fo} {w0 w : World}
theorem AL.node (h : AL B rb fb z ob g1 c1 lv r1 aa ks s j fold dot A K w0 w) : Nd (fun x => B ≤ x ∧ x ≠ z) w 3 Re.no128 (A.app (.cons 2 Re.no128 K 0 0 .nil)) 0 0 (reC 3 noV (.slice (some ⟨g1, 0, none⟩) (A.len + 1) c1) 0 0) := by
  obtain ⟨hl1, hl2, hl3, hl4, hbg⟩ := h.last
  have hlen : (A.app (.cons 2 Re.no128 K 0 0 .nil)).len = A.len + 1 := by rw [Fo.len_app]; rfl
  refine ⟨by simp [Re.no128, Re.falses], _, aa ++ (reC 2 noV lv 0 0).toList, by rw [noV_eq]; rfl, ?_, ?_⟩
  · rw [hlen]
    exact Sl.of_own h.own (fun g hg hb => by have e : g1 = g := by simpa [Value.ownBlock] using hg
                                             exact ⟨hb, by have := h.sg.2.1; omega⟩)
  · have m : ∀ {F : Fo} {xs : List Value}, FoC (PA B fb z ob g1 lv) w F xs → FoC (fun x => B ≤ x ∧ x ≠ z) w F xs := fun hF => hF.mono (fun x hx _ => ⟨hx.1, hx.2.2.2.1⟩)
    refine (m h.fa).app ⟨by simp [Re.no128, Re.falses], lv, ks, [], ?_, ?_, m h.fk, rfl⟩
    · rw [← noV_eq]; simp
    · exact Sl.of_own h.ol (fun g hg hb => ⟨hb, (h.sl g hg).2.2.1⟩)
end
noncomputable def al7 : Code := lq2 (lq2 (lq2 alB))
theorem al7_walk {B rb fb z ob g1 c1 : Nat} {lv : Value} {r1 : Array Value} {aa ks : List Value} {s : ByteArray} {j : Nat} {fold dot : Bool} {A K : Fo} {w0 w : World} {a : Array Value} {L : Fo}
    (hF : AF rb fb z ob a) (h : AL B rb fb z ob g1 c1 lv r1 aa ks s j fold dot A K w0 w) (hL : A.app (.cons 2 Re.no128 K 0 0 .nil) = L) :
    Code.wp Tryz.prog al7 (bodyPost Tryz.prog Tryz.f18 (RdPost (· = rb) rb s j 3 Re.no128 L 0 0 w0)) ⟨a, []⟩ w := by
  obtain ⟨v6, h6⟩ := hF.six
  have hn := h.node
  rw [hL] at hn
  obtain ⟨sb1, sb2, sb3, sb4, sb5⟩ := h.sb
  have hpost : RdPost (· = rb) rb s j 3 Re.no128 L 0 0 w0 (.returned (.agg (reC 3 noV (.slice (some ⟨g1, 0, none⟩) (A.len + 1) c1) 0 0))) (w.setRow z (reC 3 noV (.slice (some ⟨g1, 0, none⟩) (A.len + 1) c1) 0 0)) := by
    have kz : Kp (fun x => x = z) w (w.setRow z (reC 3 noV (.slice (some ⟨g1, 0, none⟩) (A.len + 1) c1) 0 0)) := Kp.setRow (X := fun x => x = z) (g := z) (Kp.refl _ w) (.inl rfl) _
    refine ⟨_, rfl, (hn.kept kz (fun x hx => hx.2)).mono (fun x hx _ => by rw [sb5]; exact hx.1), h.r.kept kz (by show ¬ rb = z; omega), h.k.seq' kz (fun x hx _ => by show ¬ x = z; omega)⟩
  have HP := Lib.hid hpost
  have HZ := Lib.hid h.hz
  have HO := Lib.hid h.ho
  clear hpost hn h
  refine AF.open (C := fun a => Code.wp Tryz.prog al7 _ ⟨a, []⟩ w) hF h6 fun x => ?_
  clear hF h6
  simp only [al7, alB, Tryz.f18, Option.getD_some, lq2]
  refine wp_seq ?_
  refine wp_region_list ?_
  refine wpList_load_row rfl tRe _ rfl ob rfl tRe _ (0, 0) _ HO.out Tryz.underlying31 rfl (by rw [sizeRe]; rfl) ?_
  refine wpList_store_row rfl tRe _ _ rfl z _ rfl rfl tRe reZ HZ.out (by rw [sizeRe]; rfl) rfl (Array.all_eq_true_iff_forall_mem.2 (fun v hv => (oneC_reC oneC_no rfl : oneC (reC 3 noV (.slice (some ⟨g1, 0, none⟩) (A.len + 1) c1) 0 0).toList) v (by simpa using hv))) ?_
  refine wpList_nil ?_
  go_wp2
  exact bodyPost_ret (v := .agg (reC 3 noV (.slice (some ⟨g1, 0, none⟩) (A.len + 1) c1) 0 0)) (resultRe Tryz.results18 _ _ z _ rfl (setRow_heap _ _ reZ _ tRe (0, 0) HZ.out) rfl) rfl HP.out
def steps : G → Nat
  | .done => 0
  | .bar r => steps r + 1
  | .ato _ _ r => steps r + 1
  | .grp _ _ r => steps r + 1
  | .flg _ _ r => steps r + 1
def RoundsOK (g : G) : Prop := ∀ (B rb fb z ob g1 c1 : Nat) (lv : Value) (r1 : Array Value) (aa ks : List Value) (s : ByteArray) (j : Nat) (fold dot : Bool) (A K : Fo) (w0 w : World) (Q : Exit → Act → World → Prop) (a : Array Value) (l : List UInt8) (fuel : Nat),
  AF rb fb z ob a → AL B rb fb z ob g1 c1 lv r1 aa ks s j fold dot A K w0 w → s.size ≤ 274877906944 → A.len ≤ j → K.len ≤ j → Rm s j (bs (Re.pr g) ++ l) → (l = [] ∨ ∃ l', l = UInt8.ofNat 41 :: l') → g.ok = true → (noC g = true ∨ (CT w0 ∧ noTab rb w0)) → steps g < fuel →
  (∀ n a' w' g1' c1' lv' r1' aa' ks' f2 d2 A' K', AF rb fb z ob a' → AL B rb fb z ob g1' c1' lv' r1' aa' ks' s (j + (Re.pr g).length) f2 d2 A' K' w0 w' →
    A'.app (.cons 2 Re.no128 K' 0 0 .nil) = A.app (.cons 2 Re.no128 (K.app (Re.ms g fold dot).1) 0 0 (Re.ms g fold dot).2) → Q (.exit 0) ⟨a', []⟩ (w'.drewN n)) →
  Code.rounds Tryz.prog alL Q fuel ⟨a, []⟩ w
def AltOK (g : G) : Prop := ∀ (rb : Nat) (s : ByteArray) (i : Nat) (l : List UInt8) (fold dot : Bool) (w : World), RS rb s i true w → s.size ≤ 274877906944 → Rm s i (bs (Re.pr g) ++ l) → (l = [] ∨ ∃ l', l = UInt8.ofNat 41 :: l') → g.ok = true → (noC g = true ∨ CT w) →
  Calls Tryz.prog 18 #[.pointer (some ⟨rb, 0, none⟩), flV fold dot] w (RdPost (· = rb) rb s (i + (Re.pr g).length) 3 Re.no128 (Re.lists g fold dot) 0 0 w)
theorem AL.drewN {B rb fb z ob g1 c1 : Nat} {lv : Value} {r1 : Array Value} {aa ks : List Value} {s : ByteArray} {j : Nat} {fold dot : Bool} {A K : Fo} {w0 w : World} (h : AL B rb fb z ob g1 c1 lv r1 aa ks s j fold dot A K w0 w) (n : Nat) : AL B rb fb z ob g1 c1 lv r1 aa ks s j fold dot A K w0 (w.drewN n) :=
  h.kept0 (h.r.drew n) (Kp.drewN n (Kp.refl _ w))
theorem re3_eq (kv : Value) : ((reZ.toList.set 0 (.int .i64 3)).set 129 kv).toArray = reC 3 noV kv 0 0 := rfl
theorem oneC_re3 (kv : Value) (h : kv.oneCell' = true) : oneC ((reZ.toList.set 0 (.int .i64 3)).set 129 kv) := oneC_reC (k := 3) (kv := kv) (l := 0) (m := 0) oneC_no h
attribute [local go_sem ↓] wp_bsT
theorem alt_of (g : G) (hg : RoundsOK g) : AltOK g := by
  intro rb s i l fold dot w hr hs hm hl hok hct
  have hrz : reZ.size = 132 := rfl
  have hz := zeroRe
  have HR := Lib.hid hr
  have HM := Lib.hid hm
  have HL := Lib.hid hl
  have HG := Lib.hid hg
  clear hg hr hm hl
  go_enter Tryz.func18, Tryz.ntmps18
  go_wp2_with fail
  obtain ⟨W, hW⟩ : ∃ W, ((w.alloc (.cells #[.bool fold, .bool dot] tFl)).alloc (.cells reZ tRe)).alloc (.cells (reZ.setIfInBounds 0 (.int .i64 2)) tRe) = W := ⟨_, rfl⟩
  have hWs : W.heap.size = w.heap.size + 1 + 1 + 1 := by rw [← hW]; simp
  have kW : Kp (fun _ => False) w W := by rw [← hW]; exact (((Kp.refl _ _).alloc _).alloc _).alloc _
  have f0 : FS w.heap.size fold dot W := by
    unfold FS
    rw [← hW, Lib.alloc_old _ _ _ (by simp; omega), Lib.alloc_old _ _ _ (by simp)]; exact heap_alloc_new w _
  have z0 : W.heap[w.heap.size + 1]? = some (.cells reZ tRe (0, 0)) := by
    rw [← hW, Lib.alloc_old _ _ _ (by simp)]; have := heap_alloc_new (w.alloc (.cells #[.bool fold, .bool dot] tFl)) (.cells reZ tRe); simpa using this
  have g0 : W.heap[w.heap.size + 1 + 1]? = some (.cells (reC 2 noV (.slice none 0 0) 0 0) tRe (0, 0)) := by
    have h1 := heap_alloc_new ((w.alloc (.cells #[.bool fold, .bool dot] tFl)).alloc (.cells reZ tRe)) (.cells (reZ.setIfInBounds 0 (.int .i64 2)) tRe)
    have h2 : ((w.alloc (.cells #[.bool fold, .bool dot] tFl)).alloc (.cells reZ tRe)).heap.size = w.heap.size + 1 + 1 := by simp
    rw [h2, hW] at h1
    exact h1
  rw [hW, ← hWs, storeRe _ W.heap.size reZ ((reZ.toList.set 0 (.int .i64 3)).set 129 (.slice (some ⟨w.heap.size + 1 + 1, 0, none⟩) 1 1)) (heap_alloc_new W _) rfl rfl (oneC_re3 _ rfl), re3_eq, World.setRow_alloc_new]
  obtain ⟨V, hV⟩ : ∃ V, W.alloc (.cells (reC 3 noV (.slice (some ⟨w.heap.size + 1 + 1, 0, none⟩) 1 1) 0 0) tRe) = V := ⟨_, rfl⟩
  have hAL : AL w.heap.size rb w.heap.size (w.heap.size + 1) W.heap.size (w.heap.size + 1 + 1) 1 (.slice none 0 0) (reC 2 noV (.slice none 0 0) 0 0) [] [] s i fold dot .nil .nil w V := by
    have kV : Kp (fun _ => False) W V := by rw [← hV]; exact (Kp.refl _ _).alloc _
    have hrl := (HR.out.cells).2.2.2.2.2
    have gV : V.heap[w.heap.size + 1 + 1]? = some (.cells (reC 2 noV (.slice none 0 0) 0 0) tRe (0, 0)) := kV.heap id g0
    refine ⟨HR.out.kept (kW.trans kV) id, kV.heap id f0, kV.heap id z0, ?_, (kW.trans kV).false_mono, gV, ⟨rfl, .inr ⟨_, 1, _, rfl, by omega, gV, Nat.le_refl _, by decide, rfl, ?_⟩⟩, ⟨rfl, .inl ⟨rfl, rfl⟩⟩, rfl, rfl, ⟨by omega, by omega, by omega⟩, (fun p hp => by cases hp), ⟨hrl, Nat.le_refl _, by omega, by omega, rfl⟩, by omega⟩
    · rw [← hV]; exact heap_alloc_new W _
    · rw [List.take_of_length_le (by show _ ≤ _; exact Nat.le_refl 132)]; rfl
  have HAL := Lib.hid hAL
  rw [hV]
  clear hAL hV f0 z0 g0 kW hW
  go_wp2_with fail
  rename_i K hK
  have HK := Lib.hid hK
  clear hK
  refine wp_loop_rounds (steps g + 1) ?_
  refine HG.out w.heap.size rb w.heap.size (w.heap.size + 1) W.heap.size _ _ _ _ _ _ s i fold dot _ _ w V _ _ l (steps g + 1) ?_ HAL.out hs (Nat.zero_le _) (Nat.zero_le _) HM.out HL.out hok (hct.imp id (fun c => ⟨c, HR.out.noTab⟩)) (Nat.lt_succ_self _) ?_
  · rw [hWs]; exact ⟨rfl, rfl, rfl, rfl, rfl⟩
  · intro n a' w' g1' c1' lv' r1' aa' ks' f2 d2 A' K' hF' hAL' hfo
    refine HK.out _ _ ?_
    exact al7_walk hF' (hAL'.drewN n) hfo
end Go.Proofs.YtpfgmiocdgfniaaGreatFmt

namespace Go.Proofs.YtpfgmiocdgfniaaGreatFmt
open Go.RowKit
open Re (Fo G Su Ato)
theorem nmL_lt : ∀ k c, c ∈ Re.nmL k → c < 128 := by
  intro k c h
  have : ∀ k, k ≤ 12 → ∀ c ∈ Re.nmL k, c < 128 := by decide
  by_cases hk : k ≤ 12
  · exact this k hk c h
  · have : Re.nmL k = [] := by
      unfold Re.nmL
      split <;> first | omega | rfl
    rw [this] at h; cases h
theorem prI_lt : ∀ i : Re.CI, i.ok = true → ∀ c ∈ Re.prI i, c < 128
  | .ch c, h, d, hd => by
    simp [Re.CI.ok, Re.chOk] at h
    simp [Re.prI] at hd
    omega
  | .rng a b, h, d, hd => by
    simp [Re.CI.ok, Re.chOk] at h
    simp [Re.prI] at hd
    omega
  | .nm k, h, d, hd => by
    simp only [Re.prI, List.mem_cons, List.mem_append, List.not_mem_nil, or_false] at hd
    rcases hd with e | e | e | e | e
    · omega
    · omega
    · exact nmL_lt k d e
    · omega
    · omega
theorem prIs_lt : ∀ is : List Re.CI, Re.isOk is = true → ∀ c ∈ Re.prIs is, c < 128
  | [], _, c, hc => by cases hc
  | i :: r, h, c, hc => by
    simp only [Re.isOk, Bool.and_eq_true] at h
    simp only [Re.prIs, List.mem_append] at hc
    rcases hc with hc | hc
    · exact prI_lt i h.1 c hc
    · exact prIs_lt r h.2 c hc
theorem prA_lt (a : Ato) (h : a.ok = true) : ∀ c ∈ Re.prA a, c < 128 := by
  intro c hc
  cases a with
  | lit d => simp [Re.Ato.ok, Re.litOk] at h; simp [Re.prA] at hc; omega
  | esc d => simp [Re.Ato.ok, Re.escOk] at h; simp [Re.prA] at hc; omega
  | dot => simp [Re.prA] at hc; omega
  | beg => simp [Re.prA] at hc; omega
  | fin => simp [Re.prA] at hc; omega
  | cls neg is =>
    simp only [Re.Ato.ok, Bool.and_eq_true] at h
    simp only [Re.prA, List.mem_cons, List.mem_append, List.not_mem_nil, or_false] at hc
    rcases hc with e | e | e | e
    · omega
    · cases neg <;> simp at e; omega
    · exact prIs_lt is h.1 c e
    · omega
theorem prS_lt (q : Su) : ∀ c ∈ Re.prS q, c < 128 := by
  intro c hc
  cases q <;> simp [Re.prS] at hc <;> omega
theorem pr_lt : ∀ g : G, g.ok = true → ∀ c ∈ Re.pr g, c < 128
  | .done, _, c, hc => by cases hc
  | .bar r, h, c, hc => by
    simp only [Re.pr, List.mem_cons] at hc
    rcases hc with e | hc
    · omega
    · exact pr_lt r h c hc
  | .ato a q r, h, c, hc => by
    simp only [G.ok, Bool.and_eq_true] at h
    simp only [Re.pr, List.mem_append] at hc
    rcases hc with hc | hc | hc
    · exact prA_lt a h.1 c hc
    · exact prS_lt q c hc
    · exact pr_lt r h.2 c hc
  | .grp i q r, h, c, hc => by
    simp only [G.ok, Bool.and_eq_true] at h
    simp only [Re.pr, List.mem_cons, List.mem_append] at hc
    rcases hc with e | hc | e | hc | hc
    · omega
    · exact pr_lt i h.1 c hc
    · omega
    · exact prS_lt q c hc
    · exact pr_lt r h.2 c hc
  | .flg i u r, h, c, hc => by
    simp only [Re.pr, Re.prF, List.cons_append, List.mem_cons, List.mem_append] at hc
    rcases hc with e | e | e | hc | hc
    · omega
    · omega
    · omega
    · cases i <;> cases u <;> simp at hc <;> omega
    · exact pr_lt r h c hc
theorem hd_of (g : G) (l : List UInt8) (h : g.ok = true) (hl : l = [] ∨ ∃ l', l = UInt8.ofNat 41 :: l') : Hd (bs (Re.pr g) ++ l) := by
  cases hg : Re.pr g with
  | nil =>
    rcases hl with rfl | ⟨l', rfl⟩
    · exact .inl rfl
    · exact .inr ⟨41, l', rfl, by omega, by omega, by omega, by omega, by omega⟩
  | cons c r =>
    have hh := Re.hd_pr g [] h rfl
    have hc := pr_lt g h c (by rw [hg]; simp)
    rw [hg] at hh
    simp only [List.cons_append, Re.hdOk, Bool.not_eq_true', Bool.or_eq_false_iff, beq_eq_false_iff_ne] at hh
    exact .inr ⟨c, bs r ++ l, rfl, hc, hh.1.1.1, hh.1.1.2, hh.1.2, hh.2⟩
theorem group_in (g : G) (hA : AltOK g) (rb fb : Nat) (s : ByteArray) (i : Nat) (l : List UInt8) (fold dot : Bool) (w : World) (hr : RS rb s i true w) (hf : FS fb fold dot w) (hs : s.size ≤ 274877906944) (hm : Rm s i (bs (Re.pr g) ++ (UInt8.ofNat 41 :: l))) (hok : g.ok = true) (hct : noC g = true ∨ CT w) :
    Calls Tryz.prog 54 #[.pointer (some ⟨rb, 0, none⟩), .pointer (some ⟨fb, 0, none⟩)] w (RdPost (· = rb) rb s (i + (Re.pr g).length + 1) 3 Re.no128 (Re.lists g fold dot) 0 0 w) := by
  have hz := zeroRe
  obtain ⟨f0, f1, hfl⟩ := hf.cells
  have N63 := Lib.hid (hd_of g (UInt8.ofNat 41 :: l) hok (.inr ⟨l, rfl⟩)).no63
  have HR := Lib.hid hr
  have HM := Lib.hid hm
  have HA := Lib.hid hA
  have HF := Lib.hid hf
  clear hr hm hA hf
  go_enter Tryz.func54, Tryz.ntmps54
  go_wp2_with fail
  obtain ⟨W, hW⟩ : ∃ W, (w.alloc (.cells reZ tRe)).alloc (.cells #[.bool fold, .bool dot] tFl) = W := ⟨_, rfl⟩
  have hWs : W.heap.size = w.heap.size + 1 + 1 := by rw [← hW]; simp
  have kW : Kp (fun _ => False) w W := by rw [← hW]; exact ((Kp.refl _ _).alloc _).alloc _
  have z0 : W.heap[w.heap.size]? = some (.cells reZ tRe (0, 0)) := by
    rw [← hW, Lib.alloc_old _ _ _ (by simp)]; exact heap_alloc_new w _
  have fl0 : FS (w.heap.size + 1) fold dot W := by
    unfold FS
    rw [← hW]; have := heap_alloc_new (w.alloc (.cells reZ tRe)) (.cells #[.bool fold, .bool dot] tFl); simpa using this
  obtain ⟨e0, e1, _⟩ := fl0.cells
  have hrw : RS rb s i true W := HR.out.kept kW id
  rw [hW]
  refine (skip_f rb s _ i true W _ hrw (by omega) (by decide) HM.out N63.out).mono ?_
  rintro e w1 ⟨rfl, n, rfl⟩
  have HW1 := Lib.hid (hrw.drew n)
  clear hW fl0 f0 f1 hfl
  go_wp2_with fail
  refine (HA.out rb s i (UInt8.ofNat 41 :: l) fold dot _ HW1.out hs HM.out (.inr ⟨l, rfl⟩) hok (hct.imp id (fun c => c.kept (Kp.drewN n kW) (fun _ h => h.elim)))).mono ?_
  rintro e w2 ⟨c, rfl, hn, hr2, hk2⟩
  have hrl : rb < w.heap.size := HR.out.cells.2.2.2.2.2
  have kWw : Kp (· = rb) W w2 := (Kp.drewN n (Kp.refl _ W)).trans hk2
  have z2 : w2.heap[w.heap.size]? = some (.cells reZ tRe (0, 0)) := kWw.heap (by show ¬ w.heap.size = rb; omega) z0
  have szw := kWw.size
  have HN := Lib.hid (hn.mono (Q := fun g => w.heap.size ≤ g ∧ g ≠ w.heap.size) (fun g hg _ => by have hg : W.heap.size ≤ g := hg; omega))
  have HK2 := Lib.hid (kW.false_mono.trans kWw : Kp (· = rb) w w2)
  have HR2 := Lib.hid hr2
  have HC := Lib.hid hn.size
  have H1 := Lib.hid hn.oneC
  clear hn hk2 hr2 kWw
  go_wp2_with fail
  have ec : c.size = 132 := HC.out
  rw [storeRe (w2.alloc (.cells reZ tRe)) w2.heap.size reZ _ (heap_alloc_new w2 _) rfl (by rw [Array.length_toList, ec]) H1.out, World.setRow_alloc_new]
  have kV : Kp (fun _ => False) w2 (w2.alloc (.cells c tRe)) := (Kp.refl _ _).alloc _
  obtain ⟨V, hV⟩ : ∃ V, w2.alloc (.cells c tRe) = V := ⟨_, rfl⟩
  have zV : V.heap[w.heap.size]? = some (.cells reZ tRe (0, 0)) := by rw [← hV]; exact kV.heap id z2
  have cV : V.heap[w2.heap.size]? = some (.cells c tRe (0, 0)) := by rw [← hV]; exact heap_alloc_new w2 _
  have HNV : Hid (Nd (fun g => w.heap.size ≤ g ∧ g ≠ w.heap.size) V 3 Re.no128 (Re.lists g fold dot) 0 0 c) := Lib.hid (by rw [← hV]; exact HN.out.kept kV (fun _ _ => id))
  have HRV : Hid (RS rb s (i + (Re.pr g).length) true V) := Lib.hid (by rw [← hV]; exact HR2.out.kept kV id)
  have HKV : Hid (Kp (· = rb) w V) := Lib.hid (by rw [← hV]; exact HK2.out.trans kV.false_mono)
  have HZV := Lib.hid zV
  have HCV := Lib.hid cV
  have hm2 : Rm s (i + (Re.pr g).length) (UInt8.ofNat 41 :: l) := by
    have := HM.out.app
    simpa [bs] using this
  have HM2 := Lib.hid hm2
  simp only [Array.toArray_toList]
  rw [hV]
  clear hV zV cV ec hm2 kV z2 z0 e0 e1
  go_wp2_with fail
  refine (skip_t rb s ⟨#[41]⟩ (i + (Re.pr g).length) true V l HRV.out (by omega) HM2.out).mono ?_
  rintro e w3 ⟨rfl, hr3, hk3⟩
  have z3 : w3.heap[w.heap.size]? = some (.cells reZ tRe (0, 0)) := hk3.heap (by show ¬ w.heap.size = rb; omega) HZV.out
  have c3 : w3.heap[w2.heap.size]? = some (.cells c tRe (0, 0)) := hk3.heap (by show ¬ w2.heap.size = rb; omega) HCV.out
  have n3 := HNV.out.kept hk3 (fun g hg => by show ¬ g = rb; omega)
  have hpost : RdPost (· = rb) rb s (i + (Re.pr g).length + 1) 3 Re.no128 (Re.lists g fold dot) 0 0 w (.returned (.agg c)) (w3.setRow w.heap.size c) := by
    have kz : Kp (fun x => x = w.heap.size) w3 (w3.setRow w.heap.size c) := Kp.setRow (X := fun x => x = w.heap.size) (g := w.heap.size) (Kp.refl _ w3) (.inl rfl) _
    exact ⟨c, rfl, (n3.kept kz (fun x hx => hx.2)).mono (fun x hx _ => hx.1), hr3.kept kz (by show ¬ rb = w.heap.size; omega), (HKV.out.trans hk3).seq' kz (fun x hx _ => by show ¬ x = w.heap.size; omega)⟩
  have HP := Lib.hid hpost
  have HZ3 := Lib.hid z3
  have HC3 := Lib.hid c3
  clear hr3 hk3 z3 c3 n3 hpost
  go_upto_region 23 with fail
  refine wp_region_list ?_
  refine wpList_load_row rfl tRe _ rfl w2.heap.size rfl tRe c (0, 0) _ HC3.out Tryz.underlying31 rfl (by rw [sizeRe, HC.out]) ?_
  refine wpList_store_row rfl tRe _ _ rfl w.heap.size c rfl rfl tRe reZ HZ3.out (by rw [sizeRe, HC.out]) (by rw [HC.out]; rfl) (Array.all_eq_true_iff_forall_mem.2 (fun v hv => H1.out v (by simpa using hv))) ?_
  refine wpList_nil ?_
  go_wp2
  exact bodyPost_ret (v := .agg c) (resultRe Tryz.results54 _ _ w.heap.size c rfl (setRow_heap _ _ reZ _ tRe (0, 0) HZ3.out) HC.out) rfl HP.out
end Go.Proofs.YtpfgmiocdgfniaaGreatFmt

namespace Go.Proofs.YtpfgmiocdgfniaaGreatFmt
open Go.RowKit
open Re (Fo G Su Ato)
theorem atom_store {rb fb : Nat} {s : ByteArray} {j : Nat} {f2 d2 : Bool} {k : Nat} {set : List Bool} {kids : Fo} {w V : World} {c : Array Value} {tmps : Array Value}
    (hn : Nd (fun g => w.heap.size ≤ g ∧ g ≠ w.heap.size) V k set kids 0 0 c) (hr : RS rb s j true V) (hf : FS fb f2 d2 V) (hk : Kp (XR rb fb) w V) (hz : V.heap[w.heap.size]? = some (.cells reZ tRe (0, 0))) (hrl : rb < w.heap.size) (hfl : fb < w.heap.size)
    (hp : tmps.getD 4 undef = .pointer (some ⟨w.heap.size, 0, none⟩)) :
    bodyPost Tryz.prog Tryz.f34 (AmPost rb fb s j f2 d2 k set kids w) .ret ⟨tmps, []⟩ (V.setRow w.heap.size c) := by
  have kz : Kp (fun x => x = w.heap.size) V (V.setRow w.heap.size c) := Kp.setRow (X := fun x => x = w.heap.size) (g := w.heap.size) (Kp.refl _ V) (.inl rfl) _
  refine bodyPost_ret (v := .agg c) (resultRe Tryz.results34 _ _ w.heap.size _ hp (setRow_heap _ _ reZ _ tRe (0, 0) hz) hn.size) rfl ⟨c, rfl, (hn.kept kz (fun x hx => hx.2)).mono (fun x hx _ => hx.1), hr.kept kz (by show ¬ rb = w.heap.size; omega), kz.heap (by show ¬ fb = w.heap.size; omega) hf, hk.seq' kz (fun x hx _ => by show ¬ x = w.heap.size; omega)⟩
theorem atom_par (rb fb : Nat) (s : ByteArray) (i j : Nat) (r : List UInt8) (fold dot f2 d2 : Bool) (k : Nat) (set : List Bool) (kids : Fo) (w : World) (h : RS rb s i true w) (hf : FS fb fold dot w) (hs : s.size ≤ 4611686018427387904) (hm : Rm s i (UInt8.ofNat 40 :: r))
    (hG : ∀ V, Kp (· = rb) w V → RS rb s (i + 1) true V → FS fb fold dot V → Calls Tryz.prog 54 #[.pointer (some ⟨rb, 0, none⟩), .pointer (some ⟨fb, 0, none⟩)] V (AmPost rb fb s j f2 d2 k set kids V)) :
    Calls Tryz.prog 34 #[.pointer (some ⟨rb, 0, none⟩), .pointer (some ⟨fb, 0, none⟩)] w (AmPost rb fb s j f2 d2 k set kids w) := by
  have hz := zeroRe
  have hfl := hf.cells.2.2
  have hrl := h.cells.2.2.2.2.2
  have hne : fb ≠ rb := blk_ne hf h (by decide)
  have HM0 : Hid (Mid rb s i w (w.alloc (.cells reZ tRe))) := Lib.hid (Mid.start h)
  have HR := Lib.hid hm
  have HF := Lib.hid hf
  have HG := Lib.hid hG
  clear h hm hf hG
  go_enter Tryz.func34, Tryz.ntmps34
  go_wp2_with fail
  refine (skip_t rb s ⟨#[40]⟩ i true _ _ HM0.out.1 hs HR.out).mono ?_
  rintro e w1 ⟨rfl, hr1, hk1⟩
  have HM := Lib.hid (HM0.out.call hrl hr1 hk1)
  clear hr1 hk1
  go_wp2_with fail
  refine (HG.out w1 HM.out.2.1 HM.out.1 (HF.out.mid hne HM.out)).mono ?_
  rintro e w2 ⟨c, rfl, hn, hr2, hf2, hk2⟩
  have z1 := (Array.getElem?_eq_some_iff.1 HM.out.2.2).1
  have z2 : w2.heap[w.heap.size]? = some (.cells reZ tRe (0, 0)) := hk2.heap (by rintro (e | e) <;> omega) HM.out.2.2
  have HZ := Lib.hid z2
  have HN := Lib.hid (hn.mono (Q := fun g => w.heap.size ≤ g ∧ g ≠ w.heap.size) (fun g hg _ => by omega))
  have HR2 := Lib.hid hr2
  have HF2 := Lib.hid hf2
  have HK2 : Hid (Kp (XR rb fb) w w2) := Lib.hid ((HM.out.2.1.mono (fun x _ hx => .inl hx)).trans hk2)
  have ec : c.size = 132 := HN.out.size
  clear hn hr2 hf2 hk2 z2
  go_wp2_with fail
  rw [storeRe w2 w.heap.size reZ _ HZ.out rfl (by rw [Array.length_toList, ec]) HN.out.oneC]
  simp only [Array.toArray_toList]
  clear ec
  go_wp2
  exact atom_store HN.out HR2.out HF2.out HK2.out HZ.out hrl hfl rfl
theorem atom_grp (g : G) (hA : AltOK g) (rb fb : Nat) (s : ByteArray) (i : Nat) (l : List UInt8) (fold dot : Bool) (w : World) (h : RS rb s i true w) (hf : FS fb fold dot w) (hs : s.size ≤ 274877906944) (hm : Rm s i (UInt8.ofNat 40 :: (bs (Re.pr g) ++ (UInt8.ofNat 41 :: l)))) (hok : g.ok = true) (hct : noC g = true ∨ CT w) :
    Calls Tryz.prog 34 #[.pointer (some ⟨rb, 0, none⟩), .pointer (some ⟨fb, 0, none⟩)] w (AmPost rb fb s (i + 1 + (Re.pr g).length + 1) fold dot 3 Re.no128 (Re.lists g fold dot) w) := by
  refine atom_par rb fb s i _ _ fold dot fold dot 3 Re.no128 (Re.lists g fold dot) w h hf (by omega) hm (fun V hkV hr hfV => ?_)
  have hne : fb ≠ rb := blk_ne hfV hr (by decide)
  refine (group_in g hA rb fb s (i + 1) l fold dot V hr hfV hs hm.tail hok (hct.imp id (fun c => c.kept hkV (fun b hb => by rw [show b = rb from hb]; exact h.noTab)))).mono ?_
  rintro e V' ⟨c, he, hn, hr', hk⟩
  exact ⟨c, he, hn, hr', hk.heap hne hfV, hk.mono (fun x _ hx => .inl hx)⟩
def noF : G → Bool
  | .done => true
  | .bar r => noF r
  | .ato _ _ r => noF r
  | .grp i _ r => noF i && noF r
  | .flg _ _ _ => false
def ClsOK : Prop := ∀ (rb fb : Nat) (s : ByteArray) (i : Nat) (neg : Bool) (is : List Re.CI) (r : List UInt8) (fold dot : Bool) (w : World), RS rb s i true w → FS fb fold dot w → s.size ≤ 274877906944 → Rm s i (bs (Re.prA (.cls neg is)) ++ r) → (Ato.cls neg is).ok = true → CT w →
  Calls Tryz.prog 34 #[.pointer (some ⟨rb, 0, none⟩), .pointer (some ⟨fb, 0, none⟩)] w (AmPost rb fb s (i + (Re.prA (.cls neg is)).length) fold dot (Re.ndA fold dot (.cls neg is)).1 (Re.ndA fold dot (.cls neg is)).2 .nil w)
def FlgOK : Prop := ∀ (rb fb : Nat) (s : ByteArray) (i : Nat) (fi fu : Bool) (r : List UInt8) (fold dot : Bool) (w : World), RS rb s i true w → FS fb fold dot w → s.size ≤ 274877906944 → Rm s i (bs (Re.prF fi fu) ++ r) →
  Calls Tryz.prog 34 #[.pointer (some ⟨rb, 0, none⟩), .pointer (some ⟨fb, 0, none⟩)] w (AmPost rb fb s (i + (Re.prF fi fu).length) (fold || fi) true 2 Re.no128 .nil w)
theorem ato_head (a : Ato) (h : a.ok = true) : ∃ c r, Re.prA a = c :: r ∧ c < 128 ∧ c ≠ 41 ∧ c ≠ 124 := by
  cases a with
  | lit d => simp [Re.Ato.ok, Re.litOk] at h; exact ⟨d, [], rfl, h.1, by omega, by omega⟩
  | esc d => exact ⟨92, [d], rfl, by omega, by omega, by omega⟩
  | dot => exact ⟨46, [], rfl, by omega, by omega, by omega⟩
  | beg => exact ⟨94, [], rfl, by omega, by omega, by omega⟩
  | fin => exact ⟨36, [], rfl, by omega, by omega, by omega⟩
  | cls neg is => exact ⟨91, _, rfl, by omega, by omega, by omega⟩
theorem ofNat_ne {c n : Nat} (hc : c < 128) (hn : n < 128) (h : c ≠ n) : UInt8.ofNat c ≠ UInt8.ofNat n := fun e => of_ne (c := n) (n := c) hn hc (fun e => h e.symm) e
theorem Rm.len {s : ByteArray} {i : Nat} {l : List Nat} {r : List UInt8} (h : Rm s i (bs l ++ r)) : i + l.length ≤ s.size := by
  have := h.size
  simp [bs] at this; omega
theorem Rm.bs {s : ByteArray} {i : Nat} {l : List Nat} {r : List UInt8} (h : Rm s i (bs l ++ r)) : Rm s (i + l.length) r := by
  have := h.app
  simpa [Go.Proofs.YtpfgmiocdgfniaaGreatFmt.bs] using this
theorem rounds_ok : ∀ g : G, (noC g = true ∨ ClsOK) → (noF g = true ∨ FlgOK) → RoundsOK g
  | .done, _, _ => by
    intro B rb fb z ob g1 c1 lv r1 aa ks s j fold dot A K w0 w Q a l fuel hF h hs hA hK hm hl hok hct hfu hQ
    obtain ⟨f, rfl⟩ : ∃ f, fuel = f + 1 := ⟨fuel - 1, by simp [steps] at hfu; omega⟩
    refine round_end hF h.r hm hl (fun n a' hF' => hQ n a' w g1 c1 lv r1 aa ks fold dot A K hF' h ?_)
    simp [Re.ms, Fo.app_nil]
  | .bar r, hC, hFl => by
    intro B rb fb z ob g1 c1 lv r1 aa ks s j fold dot A K w0 w Q a l fuel hF h hs hA hK hm hl hok hct hfu hQ
    obtain ⟨f, rfl⟩ : ∃ f, fuel = f + 1 := ⟨fuel - 1, by simp [steps] at hfu; omega⟩
    have hm' : Rm s j (UInt8.ofNat 124 :: (bs (Re.pr r) ++ l)) := hm
    have hsz := hm'.size
    simp only [List.length_cons] at hsz
    refine round_bar hF h hs (by omega) hm' (fun a' w' g cap r1' aa' hF' h' => ?_)
    refine rounds_ok r hC hFl B rb fb z ob g cap _ r1' aa' [] s (j + 1) fold dot _ .nil w0 w' Q a' l f hF' h' hs (by rw [Fo.len_app]; simp only [Fo.len]; omega) (Nat.zero_le _) hm'.tail hl hok hct (by simp [steps] at hfu; omega) ?_
    intro n a2 w2 g1' c1' lv' r2 aa2 ks2 f2 d2 A' K' hF2 h2 hfo
    refine hQ n a2 w2 g1' c1' lv' r2 aa2 ks2 f2 d2 A' K' hF2 (by rw [show (Re.pr (.bar r)).length = (Re.pr r).length + 1 from rfl, Nat.add_comm _ 1, ← Nat.add_assoc]; exact h2) ?_
    rw [hfo, Fo.app_assoc]
    simp [Re.ms, Fo.app, Fo.app_nil]
  | .ato a q r, hC, hFl => by
    intro B rb fb z ob g1 c1 lv r1 aa ks s j fold dot A K w0 w Q a0 l fuel hF h hs hA hK hm hl hok hct hfu hQ
    obtain ⟨f, rfl⟩ : ∃ f, fuel = f + 1 := ⟨fuel - 1, by simp [steps] at hfu; omega⟩
    simp only [G.ok, Bool.and_eq_true] at hok
    obtain ⟨c, rr, hp, hc, h41, h124⟩ := ato_head a hok.1
    have hm1 : Rm s j (bs (Re.prA a) ++ (bs (Re.prS q) ++ (bs (Re.pr r) ++ l))) := by simpa [Re.pr, bs_app] using hm
    have hm0 : Rm s j (UInt8.ofNat c :: (bs rr ++ (bs (Re.prS q) ++ (bs (Re.pr r) ++ l)))) := by rw [hp] at hm1; exact hm1
    have hsz := hm0.size
    simp only [List.length_cons] at hsz
    have hl1 := hm1.len
    have hpl : 1 ≤ (Re.prA a).length := by rw [hp]; simp
    have hC2 : noC r = true ∨ ClsOK := hC.imp (fun e => by simp only [noC, Bool.and_eq_true] at e; exact e.2) id
    refine round_item (k := (Re.ndA fold dot a).1) (set := (Re.ndA fold dot a).2) (kids := .nil) (q := q) (f2 := fold) (d2 := dot) (j1 := j + (Re.prA a).length) (r := bs (Re.pr r) ++ l) hF h hs (by omega) (by omega) hm0 (ofNat_ne hc (by omega) h41) (fun e => ofNat_ne hc (by omega) h124 e.symm) ?_ hm1.bs (hd_of r l hok.2 hl) ?_
    · intro V hkV hr hf
      by_cases hcl : ∃ n is, a = .cls n is
      · obtain ⟨n, is, rfl⟩ := hcl
        rcases hC with e | e
        · simp [noC] at e
        · refine e rb fb s j n is _ fold dot V hr hf hs hm1 hok.1 ?_
          rcases hct with h0 | ⟨ct, nt⟩
          · simp [noC] at h0
          · exact ct.kept hkV (fun b hb => by rw [show b = rb from hb]; exact nt)
      · exact atom_ato rb fb s j a _ fold dot V hr hf (by omega) hm1 hok.1 (fun n is e => hcl ⟨n, is, e⟩)
    · intro a' w' g cap r1' ks' hF' h'
      have hl2 := hm1.bs.len
      refine rounds_ok r hC2 hFl B rb fb z ob g1 c1 _ r1' aa ks' s _ fold dot A _ w0 w' Q a' l f hF' h' hs (by omega) (by rw [Fo.len_app]; simp only [Nod.fo, Fo.len]; omega) hm1.bs.bs hl hok.2 (hct.imp (fun e => by simp only [noC, Bool.and_eq_true] at e; exact e.2) id) (by simp [steps] at hfu; omega) ?_
      intro n a2 w2 g1' c1' lv' r2 aa2 ks2 f2 d2 A' K' hF2 h2 hfo
      refine hQ n a2 w2 g1' c1' lv' r2 aa2 ks2 f2 d2 A' K' hF2 (by rw [show (Re.pr (.ato a q r)).length = (Re.prA a).length + ((Re.prS q).length + (Re.pr r).length) from by simp [Re.pr], ← Nat.add_assoc, ← Nat.add_assoc]; exact h2) ?_
      rw [hfo, Fo.app_assoc]
      simp only [Re.ms, sfx_eq, Nod.fo, Fo.app]
  | .grp i q r, hC, hFl => by
    intro B rb fb z ob g1 c1 lv r1 aa ks s j fold dot A K w0 w Q a0 l fuel hF h hs hA hK hm hl hok hct hfu hQ
    obtain ⟨f, rfl⟩ : ∃ f, fuel = f + 1 := ⟨fuel - 1, by simp [steps] at hfu; omega⟩
    simp only [G.ok, Bool.and_eq_true] at hok
    have hm1 : Rm s j (UInt8.ofNat 40 :: (bs (Re.pr i) ++ (UInt8.ofNat 41 :: (bs (Re.prS q) ++ (bs (Re.pr r) ++ l))))) := by simpa [Re.pr, bs] using hm
    have hsz := hm1.size
    simp only [List.length_cons, List.length_append] at hsz
    have hC1 : noC i = true ∨ ClsOK := hC.imp (fun e => by simp only [noC, Bool.and_eq_true] at e; exact e.1) id
    have hC2 : noC r = true ∨ ClsOK := hC.imp (fun e => by simp only [noC, Bool.and_eq_true] at e; exact e.2) id
    have hF1 : noF i = true ∨ FlgOK := hFl.imp (fun e => by simp only [noF, Bool.and_eq_true] at e; exact e.1) id
    have hF2 : noF r = true ∨ FlgOK := hFl.imp (fun e => by simp only [noF, Bool.and_eq_true] at e; exact e.2) id
    have hi := alt_of i (rounds_ok i hC1 hF1)
    have hq : Rm s (j + 1 + (Re.pr i).length + 1) (bs (Re.prS q) ++ (bs (Re.pr r) ++ l)) := hm1.tail.bs.tail
    refine round_item (k := 3) (set := Re.no128) (kids := Re.lists i fold dot) (q := q) (f2 := fold) (d2 := dot) (j1 := j + 1 + (Re.pr i).length + 1) (r := bs (Re.pr r) ++ l) hF h hs (by omega) (by omega) hm1 (by decide) (by decide) ?_ hq (hd_of r l hok.2 hl) ?_
    · intro V hkV hr hf
      exact atom_grp i hi rb fb s j _ fold dot V hr hf hs hm1 hok.1 (hct.imp (fun e => by simp only [noC, Bool.and_eq_true] at e; exact e.1) (fun c => c.1.kept hkV (fun b hb => by rw [show b = rb from hb]; exact c.2)))
    · intro a' w' g cap r1' ks' hF' h'
      refine rounds_ok r hC2 hF2 B rb fb z ob g1 c1 _ r1' aa ks' s _ fold dot A _ w0 w' Q a' l f hF' h' hs (by omega) (by rw [Fo.len_app]; simp only [Nod.fo, Fo.len]; omega) hq.bs hl hok.2 (hct.imp (fun e => by simp only [noC, Bool.and_eq_true] at e; exact e.2) id) (by simp [steps] at hfu; omega) ?_
      intro n a2 w2 g1' c1' lv' r2 aa2 ks2 f2 d2 A' K' hF2 h2 hfo
      refine hQ n a2 w2 g1' c1' lv' r2 aa2 ks2 f2 d2 A' K' hF2 (by rw [show j + (Re.pr (.grp i q r)).length = j + 1 + (Re.pr i).length + 1 + (Re.prS q).length + (Re.pr r).length from by simp [Re.pr]; omega]; exact h2) ?_
      rw [hfo, Fo.app_assoc]
      simp only [Re.ms, sfx_eq, Nod.fo, Fo.app, Re.lists]
  | .flg fi fu r, hC, hFl => by
    intro B rb fb z ob g1 c1 lv r1 aa ks s j fold dot A K w0 w Q a0 l fuel hF h hs hA hK hm hl hok hct hfu hQ
    obtain ⟨f, rfl⟩ : ∃ f, fuel = f + 1 := ⟨fuel - 1, by simp [steps] at hfu; omega⟩
    have hFo : FlgOK := by rcases hFl with e | e; cases e; exact e
    have hm1 : Rm s j (bs (Re.prF fi fu) ++ (bs (Re.prS .one) ++ (bs (Re.pr r) ++ l))) := by simpa [Re.pr, bs, Re.prS] using hm
    have hm0 : Rm s j (UInt8.ofNat 40 :: (bs (Re.prF fi fu).tail ++ (bs (Re.prS .one) ++ (bs (Re.pr r) ++ l)))) := hm1
    have hsz := hm0.size
    simp only [List.length_cons, List.length_append] at hsz
    have hpl : 1 ≤ (Re.prF fi fu).length := by simp [Re.prF]
    have hl1 := hm1.len
    refine round_item (k := 2) (set := Re.no128) (kids := .nil) (q := .one) (f2 := fold || fi) (d2 := true) (j1 := j + (Re.prF fi fu).length) (r := bs (Re.pr r) ++ l) hF h hs (by omega) (by omega) hm0 (by decide) (by decide) ?_ hm1.bs (hd_of r l hok hl) ?_
    · intro V hkV hr hf
      exact hFo rb fb s j fi fu _ fold dot V hr hf hs hm1
    · intro a' w' g cap r1' ks' hF' h'
      refine rounds_ok r hC (.inr hFo) B rb fb z ob g1 c1 _ r1' aa ks' s _ (fold || fi) true A _ w0 w' Q a' l f hF' h' hs (by omega) (by rw [Fo.len_app]; simp only [Nod.fo, Fo.len]; omega) hm1.bs.bs hl hok hct (by simp [steps] at hfu; omega) ?_
      intro n a2 w2 g1' c1' lv' r2 aa2 ks2 f2 d2 A' K' hF2 h2 hfo
      refine hQ n a2 w2 g1' c1' lv' r2 aa2 ks2 f2 d2 A' K' hF2 (by rw [show j + (Re.pr (.flg fi fu r)).length = j + (Re.prF fi fu).length + (Re.prS .one).length + (Re.pr r).length from by simp [Re.pr, Re.prS]; omega]; exact h2) ?_
      rw [hfo, Fo.app_assoc]
      simp only [Re.ms, sfxN, Nod.fo, Fo.app]
end Go.Proofs.YtpfgmiocdgfniaaGreatFmt

namespace Go.Proofs.YtpfgmiocdgfniaaGreatFmt
open Go.RowKit
open Re (Fo G Su Ato)
theorem bool_range (b : Nat) (o : Nat) (C : Array Value) (w : World) (h : w.heap[b]? = some (.cells C tRe (0, 0))) (hc : C.size = 132) : w.rangeAt b 0 C.toList ∧ w.there b 0 132 := by
  refine ⟨fun j v hv => ?_, fun j hj => ⟨?_, ?_⟩⟩
  · rw [Nat.zero_add, Lib.cell_of_heap h]; simpa using hv
  · rw [Nat.zero_add, Lib.cell_of_heap h, Array.getElem?_eq_getElem (by omega)]; rfl
  · rw [Nat.zero_add]; exact Lib.frozen_of_heap h j
theorem resultTmp {fn : Func} {p u : Tmp} (h : fn.results = #[.cell p tRe, .tmp u]) (tmps : Array Value) (w : World) (g : Nat) (cs : Array Value) (x : Value) (hp : tmps.getD p undef = .pointer (some ⟨g, 0, none⟩)) (hg : w.heap[g]? = some (.cells cs tRe (0, 0))) (hc : cs.size = 132) (hx : tmps.getD u undef = x) :
    (results fn tmps).run Tryz.prog w = .ok (.tuple #[.agg cs, x]) w := by
  rw [results_cell_tmp h, hp, hx]
  simp only [asAddr, Sem.run_pure, Result.andThen_ok, run_loadVar_row w g tRe tRe cs (0, 0) _ hg Tryz.underlying31 rfl (by rw [sizeRe, hc])]
def cellsAt (w : World) : Value → Array Value
  | .pointer (some ⟨b, 0, none⟩) => (match w.heap[b]? with | some (.cells c _ _) => c | _ => #[])
  | _ => #[]
def nodeAt (w : World) (v : Value) : Prop := ∃ b c, v = .pointer (some ⟨b, 0, none⟩) ∧ w.heap[b]? = some (.cells c tRe (0, 0)) ∧ c.size = 132
def blkOf : Value → Nat
  | .pointer (some a) => a.block
  | _ => 0
def ldRe (v : Value) : Sem Value := Instr.loadAt 31 v
theorem ld_eq (v : Value) : Instr.loadAt 31 v = ldRe v := rfl
theorem run_ldRe (w : World) (v : Value) (h : nodeAt w v) : (ldRe v).run Tryz.prog w = .ok (.agg (cellsAt w v)) w := by
  obtain ⟨b, c, rfl, hb, hc⟩ := h
  have hcell : cellsAt w (.pointer (some ⟨b, 0, none⟩)) = c := by simp [cellsAt, hb]
  rw [hcell]
  unfold ldRe
  simp only [Instr.loadAt, Instr.sureAddr, Sem.run_bind, Sem.run_pure, Result.andThen_ok, run_loadVar_row w b tRe tRe c (0, 0) _ hb Tryz.underlying31 rfl (by rw [sizeRe, hc])]
def stRe (v x : Value) : Sem Unit := Instr.storeAt 31 v x
theorem st_eq (v x : Value) : Instr.storeAt 31 v x = stRe v x := rfl
def oneNode (v : Value) : Prop := ∃ c : Array Value, v = .agg c ∧ c.size = 132 ∧ oneC c.toList
theorem run_stRe (w : World) (v x : Value) (h : nodeAt w v) (hy : oneNode x) : (stRe v x).run Tryz.prog w = .ok () (w.setRow (blkOf v) x.cells) := by
  obtain ⟨b, c, rfl, hb, hc⟩ := h
  obtain ⟨d, rfl, hd1, hd2⟩ := hy
  unfold stRe
  simp only [Instr.storeAt, Instr.sureAddr, Sem.run_bind, Sem.run_pure, Result.andThen_ok, run_storeVar_row w b tRe tRe c d hb (by rw [sizeRe, hd1]) (by rw [hc, hd1]) (Array.all_eq_true_iff_forall_mem.2 (fun v hv => hd2 v (by simpa using hv))), blkOf, Value.cells]
attribute [local go_sem ↓] ld_eq st_eq
attribute [local go_sem] run_ldRe run_stRe
theorem read_walk (g : G) (hA : AltOK g) (s : ByteArray) (w : World) (hs : s.size ≤ 274877906944) (ht : s.data.toList = bs (Re.pr g)) (hok : g.ok = true) (hct : noC g = true ∨ CT w) :
    Calls Tryz.prog 9 #[.string s] w fun e w' => ∃ c, e = .returned (.tuple #[.agg c, .bool true]) ∧ Nd (fun x => w.heap.size ≤ x) w' 3 Re.no128 (Re.lists g false false) 0 0 c ∧ Below w.heap.size w w' := by
  have hz := zeroRe
  have HA := Lib.hid hA
  have HT := Lib.hid ht
  clear hA ht
  go_enter Tryz.func9, Tryz.ntmps9
  go_wp2_with fail
  obtain ⟨W, hW⟩ : ∃ W, (w.alloc (.cells reZ tRe)).alloc (.cells #[.string s, .int .i64 0, .bool true] tRd) = W := ⟨_, rfl⟩
  have hWs : W.heap.size = w.heap.size + 1 + 1 := by rw [← hW]; simp
  have kW : Kp (fun _ => False) w W := by rw [← hW]; exact ((Kp.refl _ _).alloc _).alloc _
  have z0 : W.heap[w.heap.size]? = some (.cells reZ tRe (0, 0)) := by
    rw [← hW, Lib.alloc_old _ _ _ (by simp)]; exact heap_alloc_new w _
  have r0 : RS (w.heap.size + 1) s 0 true W := by
    unfold RS
    rw [← hW]; have := heap_alloc_new (w.alloc (.cells reZ tRe)) (.cells #[.string s, .int .i64 0, .bool true] tRd); simpa using this
  have hm : Rm s 0 (bs (Re.pr g) ++ []) := ⟨by rw [List.append_nil, List.drop_zero]; exact HT.out, Nat.zero_le _⟩
  have hlen : 0 + (Re.pr g).length = s.size := by
    have := congrArg List.length HT.out
    rw [Pat.size_toList] at this
    simp [bs] at this; omega
  have hc := HA.out (w.heap.size + 1) s 0 [] false false W r0 hs hm (.inl rfl) hok (hct.imp id (fun c => c.kept kW (fun _ h => h.elim)))
  rw [hlen] at hc
  have HC := Lib.hid hc
  clear hc hlen hm r0
  rw [hW]
  clear hW
  refine HC.out.mono ?_
  rintro e w1 ⟨c, rfl, hn, hr, hk⟩
  have ec : c.size = 132 := hn.size
  have H1 := Lib.hid hn.oneC
  have z1 : w1.heap[w.heap.size]? = some (.cells reZ tRe (0, 0)) := hk.heap (by show ¬ w.heap.size = w.heap.size + 1; omega) z0
  have HN := Lib.hid hn
  have HR := Lib.hid hr
  have HK := Lib.hid hk
  clear hn hr hk z0
  have m1 : nodeAt (w1.alloc (.cells reZ tRe)) (.pointer (some ⟨w1.heap.size, 0, none⟩)) := ⟨_, reZ, rfl, heap_alloc_new w1 _, rfl⟩
  have n4 : oneNode (.agg c) := ⟨c, rfl, ec, H1.out⟩
  go_upto_region 3 with fail
  clear m1
  simp only [blkOf, World.setRow_alloc_new]
  obtain ⟨V, hV⟩ : ∃ V, w1.alloc (.cells c tRe) = V := ⟨_, rfl⟩
  have kV : Kp (fun _ => False) w1 V := by rw [← hV]; exact (Kp.refl _ _).alloc _
  have HZV : Hid (V.heap[w.heap.size]? = some (.cells reZ tRe (0, 0))) := Lib.hid (kV.heap id z1)
  have HCV : Hid (V.heap[w1.heap.size]? = some (.cells c tRe (0, 0))) := Lib.hid (by rw [← hV]; exact heap_alloc_new w1 _)
  have HRV := Lib.hid (HR.out.kept kV id)
  have HNV := Lib.hid (HN.out.kept kV (fun _ _ => id))
  have HKV := Lib.hid (HK.out.trans kV.false_mono)
  obtain ⟨q0, q1, q2, _, _, q5⟩ := HRV.out.cells
  have rc := (bool_range w1.heap.size 0 c V HCV.out ec).1
  have rz := (bool_range w.heap.size 0 reZ V HZV.out rfl).2
  have hzc : w.heap.size ≠ w1.heap.size := by have := HK.out.size; omega
  have hu := Tryz.underlying31
  have hi : (Tryz.prog.info? tRe).map (·.size) = some c.toList.length := by rw [Array.length_toList, ec]; exact sizeRe
  have hl : c.toList.length = 132 := by rw [Array.length_toList, ec]
  have h1 : ∀ v ∈ c.toList, v.oneCell' = true := H1.out
  rw [hV]
  clear hV kV z1
  have n1 : nodeAt V.drew (.pointer (some ⟨w1.heap.size, 0, none⟩)) := ⟨_, c, rfl, HCV.out, ec⟩
  have n2 : nodeAt V.drew (.pointer (some ⟨w.heap.size, 0, none⟩)) := ⟨_, reZ, rfl, HZV.out, rfl⟩
  have n3 : cellsAt V.drew (.pointer (some ⟨w1.heap.size, 0, none⟩)) = c := by
    have := HCV.out
    show (match V.heap[w1.heap.size]? with | some (.cells c _ _) => c | _ => #[]) = c
    rw [this]
  have kz : Kp (fun x => x = w.heap.size) V (V.drew.setRow w.heap.size c) := Kp.setRow (X := fun x => x = w.heap.size) (g := w.heap.size) (Kp.drew (Kp.refl _ V)) (.inl rfl) _
  have hc5 := kz.heap (by show ¬ w1.heap.size = w.heap.size; omega) HCV.out
  have hz5 : (V.drew.setRow w.heap.size c).heap[w.heap.size]? = some (.cells c tRe (0, 0)) := setRow_heap _ _ reZ _ _ _ HZV.out
  have hr5 := HRV.out.kept kz (by show ¬ w.heap.size + 1 = w.heap.size; omega)
  have HN5 := Lib.hid (HNV.out.kept kz (fun x hx => by have hx : W.heap.size ≤ x := hx; show ¬ x = w.heap.size; omega))
  have HK5 := Lib.hid (Kp.below (B := w.heap.size) (((kW.false_mono.trans HKV.out : Kp (fun x => x = w.heap.size + 1) w V)).seq' (Y := fun x => x = w.heap.size) kz (fun x hx _ => by show ¬ x = w.heap.size; omega)) (Nat.le_refl _) (fun k hk => by show ¬ k = w.heap.size + 1; omega))
  obtain ⟨_, p1, p2, _, _, _⟩ := hr5.cells
  have K5 : Hid (nodeAt (V.drew.setRow w.heap.size c) (.pointer (some ⟨w1.heap.size, 0, none⟩)) ∧ nodeAt (V.drew.setRow w.heap.size c) (.pointer (some ⟨w.heap.size, 0, none⟩)) ∧ cellsAt (V.drew.setRow w.heap.size c) (.pointer (some ⟨w1.heap.size, 0, none⟩)) = c ∧ (V.drew.setRow w.heap.size c).cell? ⟨w.heap.size + 1, 2, none⟩ = some (.bool true) ∧ (V.drew.setRow w.heap.size c).cell? ⟨w.heap.size + 1, 1, none⟩ = some (.int .i64 s.size)) :=
    Lib.hid ⟨⟨_, c, rfl, hc5, ec⟩, ⟨_, c, rfl, hz5, ec⟩, by simp only [cellsAt, hc5], p2, p1⟩
  have K0 : Hid (nodeAt V.drew (.pointer (some ⟨w1.heap.size, 0, none⟩)) ∧ nodeAt V.drew (.pointer (some ⟨w.heap.size, 0, none⟩)) ∧ cellsAt V.drew (.pointer (some ⟨w1.heap.size, 0, none⟩)) = c ∧ V.drew.cell? ⟨w.heap.size + 1, 2, none⟩ = some (.bool true) ∧ V.drew.cell? ⟨w.heap.size + 1, 1, none⟩ = some (.int .i64 s.size)) := Lib.hid ⟨n1, n2, n3, q2, q1⟩
  have HC5 := Lib.hid hz5
  have EC := Lib.hid ec
  clear kz hc5 hz5 hr5 p1 p2
  go_region_held3 (fun w' => nodeAt w' (.pointer (some ⟨w1.heap.size, 0, none⟩)) ∧ nodeAt w' (.pointer (some ⟨w.heap.size, 0, none⟩)) ∧ cellsAt w' (.pointer (some ⟨w1.heap.size, 0, none⟩)) = c ∧ w'.cell? ⟨w.heap.size + 1, 2, none⟩ = some (.bool true) ∧ w'.cell? ⟨w.heap.size + 1, 1, none⟩ = some (.int .i64 s.size)) (first | assumption | exact K5.out | exact K0.out) (fail)
  go_wp2
  refine bodyPost_ret (v := .tuple #[.agg c, .bool true]) ?_ rfl ⟨c, rfl, HN5.out.mono (fun x hx _ => by have hx : W.heap.size ≤ x := hx; show w.heap.size ≤ x; omega), HK5.out⟩
  exact resultTmp Tryz.results9 _ _ _ _ _ rfl HC5.out EC.out rfl
end Go.Proofs.YtpfgmiocdgfniaaGreatFmt
