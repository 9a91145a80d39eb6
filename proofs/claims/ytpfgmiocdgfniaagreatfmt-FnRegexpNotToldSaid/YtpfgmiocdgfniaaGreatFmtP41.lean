/- Joined by pack.py: ClI, LawV, LawO, OpenI. -/
import Derived.Test.YtpfgmiocdgfniaaGreatFmtP33
import Derived.Test.YtpfgmiocdgfniaaGreatFmtP34
import Derived.Test.YtpfgmiocdgfniaaGreatFmtP35
import Derived.Test.YtpfgmiocdgfniaaGreatFmtP36
import Derived.Test.YtpfgmiocdgfniaaGreatFmtP31
import Derived.Test.YtpfgmiocdgfniaaGreatFmtP37
import Derived.Test.YtpfgmiocdgfniaaGreatFmtP39
import Derived.Test.YtpfgmiocdgfniaaGreatFmtP40
import Derived.Deep.Slices
import Derived.ProofKit
set_option linter.unusedVariables false
set_option maxHeartbeats 8000000
set_option maxRecDepth 1000000
namespace Go.Proofs.YtpfgmiocdgfniaaGreatFmt
open Go.RowKit
open Re (CI G Ato)
theorem cl_nm (rb fb zb ib : Nat) (nt fst : Bool) (s : ByteArray) (j k : Nat) (r : List UInt8) (fold dot : Bool) (h : Nat → Bool) (w0 V : World) (Q : Exit → Act → World → Prop) (fuel : Nat) (a : Array Value)
    (hF : CF rb fb zb ib nt fst a) (hC : CL rb zb ib fb s j fold dot h w0 V) (hs : s.size ≤ 274877906944) (hk1 : 1 ≤ k) (hk2 : k ≤ 12) (hm : Rm s j (bs (Re.prI (.nm k)) ++ r))
    (hN : ∀ a' w', CF rb fb zb ib nt false a' → CL rb zb ib fb s (j + (Re.prI (.nm k)).length) fold dot (fun c => h c || Re.clsB k c) w0 w' → Code.rounds Tryz.prog clL Q fuel ⟨a', []⟩ w') :
    Code.rounds Tryz.prog clL Q (fuel + 1) ⟨a, []⟩ V := by
  cases fst
  · exact cl_nm_f rb fb zb ib nt s j k r fold dot h w0 V Q fuel a hF hC hs hk1 hk2 hm hN
  · exact cl_nm_t rb fb zb ib nt s j k r fold dot h w0 V Q fuel a hF hC hs hk1 hk2 hm hN
theorem is_next (is : List CI) (hok : Re.isOk is = true) (r : List UInt8) : ∃ d l, bs (Re.prIs is ++ [93]) ++ r = d :: l ∧ d.toNat ≠ 45 := by
  cases is with
  | nil => exact ⟨93, r, rfl, by decide⟩
  | cons i is =>
    simp only [Re.isOk, Bool.and_eq_true] at hok
    have key : ∀ c, Re.chOk c = true → (UInt8.ofNat c).toNat ≠ 45 := by
      intro c hc
      simp [Re.chOk] at hc
      simp; omega
    cases i with
    | ch c => exact ⟨UInt8.ofNat c, bs (Re.prIs is ++ [93]) ++ r, by simp [Re.prIs, Re.prI, bs], key c hok.1⟩
    | rng a b =>
      have h1 := hok.1
      simp only [CI.ok, Bool.and_eq_true] at h1
      exact ⟨UInt8.ofNat a, 45 :: UInt8.ofNat b :: (bs (Re.prIs is ++ [93]) ++ r), by simp [Re.prIs, Re.prI, bs], key a h1.1.1⟩
    | nm k => exact ⟨91, 58 :: (bs (Re.nmL k ++ [58, 93]) ++ (bs (Re.prIs is ++ [93]) ++ r)), by simp [Re.prIs, Re.prI, bs], by decide⟩
theorem cl_items (rb fb zb ib : Nat) (nt : Bool) (s : ByteArray) (r : List UInt8) (fold dot : Bool) (w0 : World) (Q : Exit → Act → World → Prop) (hs : s.size ≤ 274877906944) :
    ∀ (is : List CI) (fuel j : Nat) (h : Nat → Bool) (fst : Bool) (a : Array Value) (V : World), CF rb fb zb ib nt fst a → CL rb zb ib fb s j fold dot h w0 V → Re.isOk is = true → (fst = true → is ≠ []) → Rm s j (bs (Re.prIs is ++ [93]) ++ r) → is.length < fuel →
      CRet rb zb s (j + (Re.prIs is).length + 1) (Re.setL (fun c => h c || Re.isHas is c) fold nt) w0 Q → Code.rounds Tryz.prog clL Q fuel ⟨a, []⟩ V
  | [], fuel, j, h, fst, a, V, hF, hC, _, hne, hm, hf, hQ => by
    obtain ⟨f, rfl⟩ : ∃ f, fuel = f + 1 := ⟨fuel - 1, by omega⟩
    have hfst : fst = false := by cases fst; rfl; exact absurd rfl (hne rfl)
    subst hfst
    have e : Re.setL (fun c => h c || Re.isHas [] c) fold nt = Re.setL h fold nt := setL_congr _ _ _ _ (fun c _ => by simp [Re.isHas])
    rw [e] at hQ
    exact cl_end rb fb zb ib nt s j r fold dot h w0 V Q f a hF hC hs hm hQ
  | i :: is, fuel, j, h, fst, a, V, hF, hC, hok, _, hm, hf, hQ => by
    obtain ⟨f, rfl⟩ : ∃ f, fuel = f + 1 := ⟨fuel - 1, by omega⟩
    simp only [Re.isOk, Bool.and_eq_true] at hok
    simp only [List.length_cons] at hf
    have hm' : Rm s j (bs (Re.prI i) ++ (bs (Re.prIs is ++ [93]) ++ r)) := by simpa [Re.prIs, bs_app] using hm
    have hm2 := hm'.bs
    have next : ∀ a' w', CF rb fb zb ib nt false a' → CL rb zb ib fb s (j + (Re.prI i).length) fold dot (fun c => h c || i.has c) w0 w' → Code.rounds Tryz.prog clL Q f ⟨a', []⟩ w' := by
      intro a' w' hF' hC'
      refine cl_items rb fb zb ib nt s r fold dot w0 Q hs is f (j + (Re.prI i).length) _ false a' w' hF' hC' hok.2 (by simp) hm2 (by omega) ?_
      have e : Re.setL (fun c => (h c || i.has c) || Re.isHas is c) fold nt = Re.setL (fun c => h c || Re.isHas (i :: is) c) fold nt := setL_congr _ _ _ _ (fun c _ => by simp [Re.isHas, Bool.or_assoc])
      rw [e]
      have e2 : j + (Re.prI i).length + (Re.prIs is).length + 1 = j + (Re.prIs (i :: is)).length + 1 := by simp [Re.prIs]; omega
      rw [e2]; exact hQ
    cases i with
    | ch c =>
      obtain ⟨d, l, hd, hd45⟩ := is_next is hok.2 r
      have hm3 : Rm s j (UInt8.ofNat c :: d :: l) := by rw [← hd]; exact hm'
      cases fst
      · exact cl_ch_f rb fb zb ib nt s j c d l fold dot h w0 V Q f a hF hC hs hok.1 hm3 hd45 next
      · exact cl_ch_t rb fb zb ib nt s j c d l fold dot h w0 V Q f a hF hC hs hok.1 hm3 hd45 next
    | rng x y =>
      have h1 := hok.1
      simp only [CI.ok, Bool.and_eq_true, decide_eq_true_eq] at h1
      cases fst
      · exact cl_rng_f rb fb zb ib nt s j x y _ fold dot h w0 V Q f a hF hC hs h1.1.1 h1.1.2 h1.2 hm' next
      · exact cl_rng_t rb fb zb ib nt s j x y _ fold dot h w0 V Q f a hF hC hs h1.1.1 h1.1.2 h1.2 hm' next
    | nm k =>
      have h1 := hok.1
      simp only [CI.ok, Bool.and_eq_true, decide_eq_true_eq] at h1
      exact cl_nm rb fb zb ib nt fst s j k _ fold dot h w0 V Q f a hF hC hs h1.1 h1.2 hm' next
def ClPost (rb : Nat) (s : ByteArray) (j : Nat) (set : List Bool) (w : World) (e : Ending) (w' : World) : Prop :=
  e = .returned (.agg (reC 1 (set.map .bool) (.slice none 0 0) 0 0)) ∧ RS rb s j true w' ∧ Kp (· = rb) w w'
theorem cl_ret (rb zb : Nat) (s : ByteArray) (j : Nat) (set : List Bool) (w w0 : World) (hl : set.length = 128) (hw : Kp (fun _ => False) w w0) :
    CRet rb zb s j set w0 (bodyPost Tryz.prog Tryz.f55 (ClPost rb s j set w)) := by
  intro a V ha h4 hz hr hk
  have hp : a.getD 4 undef = .pointer (some ⟨zb, 0, none⟩) := by
    have h4s : 4 < a.size := by omega
    rw [Array.getElem?_eq_getElem h4s] at h4
    simp only [Array.getD, h4s, dif_pos]
    exact Option.some.inj h4
  exact bodyPost_ret (v := .agg (reC 1 (set.map .bool) (.slice none 0 0) 0 0)) (resultRe Tryz.results55 _ _ zb _ hp hz (reC_size (by simpa using hl))) rfl ⟨rfl, hr, hw.false_mono.trans hk⟩
theorem class_any (rb : Nat) (s : ByteArray) (i : Nat) (neg : Bool) (is : List CI) (r : List UInt8) (fold dot : Bool) (w : World) (hct : CT w) (hr : RS rb s i true w) (hs : s.size ≤ 274877906944) (hm : Rm s i (bs ((if neg then [94] else []) ++ (Re.prIs is ++ [93])) ++ r)) (hok : Re.isOk is = true) (hne : is ≠ []) :
    Calls Tryz.prog 55 #[.pointer (some ⟨rb, 0, none⟩), flV fold dot] w (ClPost rb s (i + ((if neg then [94] else []) ++ (Re.prIs is ++ [93])).length) (Re.setL (Re.isHas is) fold neg) w) := by
  obtain ⟨J, hJ⟩ : ∃ J, i + ((if neg then [94] else []) ++ (Re.prIs is ++ [93])).length = J := ⟨_, rfl⟩
  rw [hJ]
  have HJ := Lib.hid hJ
  clear hJ
  have hz := zeroRe
  have HR := Lib.hid hr
  have HC := Lib.hid hct
  have hrl := hr.cells.2.2.2.2.2
  have key : ∀ (j : Nat) (w1 : World) (a : Array Value) (Q : Exit → Act → World → Prop), Kp (· = rb) w w1 → RS rb s j true w1 → Rm s j (bs (Re.prIs is ++ [93]) ++ r) → FS w.heap.size fold dot w1 → w1.heap[w.heap.size + 1]? = some (.cells reZ tRe (0, 0)) → CF rb w.heap.size (w.heap.size + 1) w1.heap.size neg true a →
      CRet rb (w.heap.size + 1) s (j + (Re.prIs is).length + 1) (Re.setL (Re.isHas is) fold neg) w Q →
      Code.rounds Tryz.prog clL Q (is.length + 1) ⟨a, []⟩ (w1.alloc (.cells (inC fun _ => false) tIn)) := by
    intro j w1 a Q k hr1 hm1 hf1 hz1 hF hQ
    have ka : Kp (fun _ => False) w1 (w1.alloc (.cells (inC fun _ => false) tIn)) := (Kp.refl _ _).alloc _
    have hl1 := (Array.getElem?_eq_some_iff.1 hz1).1
    refine cl_items rb w.heap.size (w.heap.size + 1) w1.heap.size neg s r fold dot w Q hs is (is.length + 1) j (fun _ => false) true a _ hF ?_ hok (fun _ => hne) hm1 (Nat.lt_succ_self _) ?_
    · exact ⟨hr1.kept ka id, ka.heap id hf1, ka.heap id hz1, heap_alloc_new w1 _, k.trans ka.false_mono, (HC.out.kept k (fun b hb => by rw [show b = rb from hb]; exact HR.out.noTab)).kept ka (fun _ h => h.elim), ⟨hrl, Nat.le_refl _, by omega, by have := k.size; omega, by omega, by omega, by omega⟩⟩
    · have e : Re.setL (fun c => false || Re.isHas is c) fold neg = Re.setL (Re.isHas is) fold neg := setL_congr _ _ _ _ (fun c _ => by simp)
      rw [e]; exact hQ
  have KEY := Lib.hid key
  have HM := Lib.hid hm
  clear hr hct key hm
  go_enter Tryz.func55, Tryz.ntmps55
  go_wp2_with fail
  obtain ⟨W, hW⟩ : ∃ W, (w.alloc (.cells #[.bool fold, .bool dot] tFl)).alloc (.cells reZ tRe) = W := ⟨_, rfl⟩
  have kW : Kp (fun _ => False) w W := by rw [← hW]; exact ((Kp.refl _ _).alloc _).alloc _
  have f0 : FS w.heap.size fold dot W := by
    unfold FS
    rw [← hW, Lib.alloc_old _ _ _ (by simp)]; exact heap_alloc_new w _
  have z0 : W.heap[w.heap.size + 1]? = some (.cells reZ tRe (0, 0)) := by
    rw [← hW]; have := heap_alloc_new (w.alloc (.cells #[.bool fold, .bool dot] tFl)) (.cells reZ tRe); simpa using this
  have HF0 := Lib.hid f0
  have HZ0 := Lib.hid z0
  have HKW := Lib.hid kW
  rw [hW]
  clear hW f0 z0 kW
  cases neg with
  | true =>
    have hm0 : Rm s i (UInt8.ofNat 94 :: (bs (Re.prIs is ++ [93]) ++ r)) := HM.out
    have HM0 := Lib.hid hm0
    clear hm0
    refine (skip_t rb s ⟨#[94]⟩ i true W _ (HR.out.kept HKW.out id) (by omega) HM0.out).mono ?_
    rintro e w1 ⟨rfl, hr1, hk1⟩
    have k1 := HKW.out.false_mono.trans hk1
    have HK1 := Lib.hid k1
    have HR1 := Lib.hid hr1
    have HF1 : Hid (FS w.heap.size fold dot w1) := Lib.hid (hk1.heap (by show ¬ w.heap.size = rb; omega) HF0.out)
    have HZ1 : Hid (w1.heap[w.heap.size + 1]? = some (.cells reZ tRe (0, 0))) := Lib.hid (hk1.heap (by show ¬ w.heap.size + 1 = rb; omega) HZ0.out)
    clear hr1 hk1 k1
    go_wp2_with fail
    rw [inC_zero]
    refine wp_loop_rounds (is.length + 1) ?_
    refine KEY.out (i + 1) w1 _ _ HK1.out HR1.out HM0.out.tail HF1.out HZ1.out ?_ ?_
    · exact ⟨rfl, rfl, rfl, rfl, rfl, rfl, rfl⟩
    have e : i + 1 + (Re.prIs is).length + 1 = J := by rw [← HJ.out]; simp; omega
    rw [e]
    exact cl_ret rb _ s _ _ w w (Re.setL_length _ _ _) (Kp.refl _ w)
  | false =>
    have hm0 : Rm s i (bs (Re.prIs is ++ [93]) ++ r) := HM.out
    have hpre : List.isPrefixOf [94] (bs (Re.prIs is ++ [93]) ++ r) = false := by
      cases is with
      | nil => exact absurd rfl hne
      | cons x l =>
        simp only [Re.isOk, Bool.and_eq_true] at hok
        have key : ∀ c (l : List UInt8), Re.chOk c = true → List.isPrefixOf [94] (UInt8.ofNat c :: l) = false := by
          intro c l hc
          simp [Re.chOk] at hc
          exact pre_no (of_ne (n := 94) hc.1 (by omega) (by omega))
        cases x with
        | ch c => exact key c _ hok.1
        | rng a b =>
          have h1 := hok.1
          simp only [CI.ok, Bool.and_eq_true] at h1
          exact key a _ h1.1.1
        | nm k => rfl
    have HM0 := Lib.hid hm0
    have HPR := Lib.hid hpre
    clear hm0 hpre
    refine (skip_f rb s ⟨#[94]⟩ i true W _ (HR.out.kept HKW.out id) (by omega) (by decide) HM0.out HPR.out).mono ?_
    rintro e w1 ⟨rfl, n, rfl⟩
    have HK1 : Hid (Kp (· = rb) w (W.drewN n)) := Lib.hid (Kp.drewN n HKW.out.false_mono)
    have HR1 : Hid (RS rb s i true (W.drewN n)) := Lib.hid ((HR.out.kept HKW.out id).drew n)
    have HF1 : Hid (FS w.heap.size fold dot (W.drewN n)) := Lib.hid HF0.out
    have HZ1 : Hid ((W.drewN n).heap[w.heap.size + 1]? = some (.cells reZ tRe (0, 0))) := Lib.hid HZ0.out
    obtain ⟨w1, hw1⟩ : ∃ w1, W.drewN n = w1 := ⟨_, rfl⟩
    rw [hw1] at HK1 HR1 HF1 HZ1
    rw [hw1]
    clear hw1
    go_wp2_with fail
    rw [inC_zero]
    refine wp_loop_rounds (is.length + 1) ?_
    refine KEY.out i w1 _ _ HK1.out HR1.out HM0.out HF1.out HZ1.out ?_ ?_
    · exact ⟨rfl, rfl, rfl, rfl, rfl, rfl, rfl⟩
    have e : i + (Re.prIs is).length + 1 = J := by rw [← HJ.out]; simp <;> omega
    rw [e]
    exact cl_ret rb _ s _ _ w w (Re.setL_length _ _ _) (Kp.refl _ w)
theorem atom_brk (rb fb : Nat) (s : ByteArray) (i j : Nat) (r : List UInt8) (fold dot : Bool) (set : List Bool) (w : World) (h : RS rb s i true w) (hf : FS fb fold dot w) (hs : s.size ≤ 4611686018427387904) (hm : Rm s i (UInt8.ofNat 91 :: r)) (hl : set.length = 128)
    (hG : ∀ V, Kp (· = rb) w V → RS rb s (i + 1) true V → Calls Tryz.prog 55 #[.pointer (some ⟨rb, 0, none⟩), flV fold dot] V (ClPost rb s j set V)) :
    Calls Tryz.prog 34 #[.pointer (some ⟨rb, 0, none⟩), .pointer (some ⟨fb, 0, none⟩)] w (AtPost rb s j 1 set w) := by
  have hz := zeroRe
  have hrl := h.cells.2.2.2.2.2
  have hne : fb ≠ rb := blk_ne hf h (by decide)
  have HM0 : Hid (Mid rb s i w (w.alloc (.cells reZ tRe))) := Lib.hid (Mid.start h)
  have P40 := Lib.hid (pre_no (l := []) (r := r) (c := UInt8.ofNat 91) (d := UInt8.ofNat 40) (by decide))
  have HR := Lib.hid hm
  have HF := Lib.hid hf
  have HG := Lib.hid hG
  clear h hm hf hG
  go_enter Tryz.func34, Tryz.ntmps34
  go_wp2_with fail
  refine (skip_f rb s ⟨#[40]⟩ i true _ _ HM0.out.1 hs (by decide) HR.out P40.out).mono ?_
  rintro e w1 ⟨rfl, n, rfl⟩
  have HM1 := Lib.hid (HM0.out.drew n)
  go_wp2_with fail
  refine (skip_t rb s ⟨#[91]⟩ i true _ _ HM1.out.1 hs HR.out).mono ?_
  rintro e w1 ⟨rfl, hr1, hk1⟩
  have HM2 := Lib.hid (HM1.out.call hrl hr1 hk1)
  obtain ⟨f0, f1, hfl⟩ := (HF.out.mid hne HM2.out).cells
  clear hr1 hk1
  go_wp2_with fail
  refine (HG.out w1 HM2.out.2.1 HM2.out.1).mono ?_
  rintro e w2 ⟨rfl, hr2, hk2⟩
  have HM3 := Lib.hid (HM2.out.call hrl hr2 hk2)
  clear hr2 hk2 f0 f1 hfl
  have ec : (reC 1 (set.map .bool) (.slice none 0 0) 0 0).size = 132 := reC_size (by simpa using hl)
  go_wp2_with fail
  rw [storeRe _ w.heap.size reZ _ HM3.out.2.2 rfl (by rw [Array.length_toList]; exact reC_size (by simpa using hl)) (oneC_reC oneC_map rfl)]
  simp only [Array.toArray_toList]
  clear ec
  go_wp2
  exact at_done HM3.out hl rfl
theorem cls_ok : ClsOK := by
  intro rb fb s i neg is r fold dot w hr hf hs hm hok hct
  simp only [Ato.ok, Bool.and_eq_true, Bool.not_eq_true', List.isEmpty_eq_false_iff] at hok
  have hne : fb ≠ rb := blk_ne hf hr (by decide)
  have hm' : Rm s i (UInt8.ofNat 91 :: (bs ((if neg then [94] else []) ++ (Re.prIs is ++ [93])) ++ r)) := hm
  have hj : i + (Re.prA (.cls neg is)).length = i + 1 + ((if neg then [94] else []) ++ (Re.prIs is ++ [93])).length := by simp [Re.prA]; omega
  rw [hj]
  have h2 := atom_brk rb fb s i _ _ fold dot (Re.setL (Re.isHas is) fold neg) w hr hf (by omega) hm' (Re.setL_length _ _ _) (fun V k hrV => class_any rb s (i + 1) neg is r fold dot V (hct.kept k (fun b hb => by rw [show b = rb from hb]; exact hr.noTab)) hrV hs hm'.tail hok.1 hok.2)
  exact h2.mono fun e w' hp => AtPost.am hp (Re.setL_length _ _ _) hf hne
end Go.Proofs.YtpfgmiocdgfniaaGreatFmt

namespace Go.Proofs.YtpfgmiocdgfniaaGreatFmt
open Go.RowKit Go.Extern.Stop Go.Stop Go.Extern
open Re (Fo G CI fnd)
theorem alt_gc (g : G) : AltOK g := alt_of g (rounds_ok g (.inr cls_ok) (.inr flg_ok))
theorem read_gc (g : G) (hok : g.ok = true) (hl : (Re.pr g).length ≤ 274877906944) (w : World) (ct : CT w) :
    Calls Tryz.prog 9 #[.string ⟨(bs (Re.pr g)).toArray⟩] w fun e w' => ∃ c, e = .returned (.tuple #[.agg c, .bool true]) ∧ Nd (fun x => w.heap.size ≤ x) w' 3 Re.no128 (Re.lists g false false) 0 0 c ∧ Below w.heap.size w w' := by
  have hs : (ByteArray.mk (bs (Re.pr g)).toArray).size ≤ 274877906944 := by
    show (bs (Re.pr g)).toArray.size ≤ _
    simp [bs]; omega
  exact read_walk g (alt_gc g) ⟨(bs (Re.pr g)).toArray⟩ w hs (by simp) hok (.inr ct)
theorem LW.ctB {F : Interp} {pe : Addr} {w w' : World} (h : LW F pe w) (hb : Below w.heap.size w w') : CT w' := (h.below hb).ct
theorem conv_c1 (w : World) (c : Nat) (hc : c < 256) : (convert 45 9 (.slice (some ⟨w.heap.size, 0, none⟩) 1 1)).run Tryz.prog (w.alloc (.cells #[.int .u8 c] 5)) = .ok (.string ⟨#[UInt8.ofNat c]⟩) (w.alloc (.cells #[.int .u8 c] 5)) := by
  have hx : ((UInt8.ofNat c).toNat : Int) = c := by simp; omega
  have hn := heap_alloc_new w (.cells #[.int .u8 c] 5)
  refine run_convert_bytes_back _ _ _ 5 _ 1 [UInt8.ofNat c] Tryz.underlying45 Tryz.underlying5 Tryz.underlying9 ?_
  intro j hj
  match j, hj with
  | 0, _ =>
    rw [Addr.add_mid, Lib.cell_of_heap hn]
    simp only [List.getElem_cons_zero, hx]
    rfl
theorem one_cls (neg : Bool) (is : List CI) (his : is.all itP = true) (hne : is ≠ []) (P : ByteArray) (hn : nums P = prK neg is) :
    ∃ g : G, regexpM mdE true false false P = .ok (bs (Re.pr g)) ∧ g.ok = true ∧ (Re.pr g).length ≤ 20 * P.size + 10 ∧ ∀ c, c < 128 → fnd [UInt8.ofNat c] g = (Re.isHas is c != neg) := by
  obtain ⟨g, h1, h2, h3, h4⟩ := whole_q mdE rfl false false P (.cls neg is .nil) (by rw [hn]; simp [prQ]) (by simp [okQ, his]; exact hne) rfl
  refine ⟨g, h1, h2, h3, fun c hc => ?_⟩
  have ha : Re.asc [UInt8.ofNat c] := by
    intro b hb
    rw [List.mem_singleton.1 hb]; simp; omega
  rw [Bool.eq_iff_iff, h4 _ ha]
  show (byteR [UInt8.ofNat c] (clsT neg is false) 0 ∧ 0 + 1 = 1) ↔ _
  have e : (UInt8.ofNat c).toNat = c := by simp; omega
  simp [byteR, clsT, e]
theorem one_nm (k : Nat) (h1 : 1 ≤ k) (h2 : k ≤ 12) (P : ByteArray) (hn : nums P = prK false [.nm k]) :
    ∃ g : G, regexpM mdE true false false P = .ok (bs (Re.pr g)) ∧ g.ok = true ∧ (Re.pr g).length ≤ 20 * P.size + 10 ∧ ∀ c, c < 128 → fnd [UInt8.ofNat c] g = inB k c := by
  obtain ⟨g, a, b, c, d⟩ := one_cls false [.nm k] (by simp [itP, h1, h2]) (by simp) P hn
  refine ⟨g, a, b, c, fun x hx => ?_⟩
  rw [d x hx, ← clsB_inB k x hx]
  simp [Re.isHas, CI.has]
end Go.Proofs.YtpfgmiocdgfniaaGreatFmt

namespace Go.Proofs.YtpfgmiocdgfniaaGreatFmt
open Go.RowKit
theorem one_piece {W : World} {b c : Nat} {p : PF} {a : Option Addr} (h : FlatAt W b 0 p (.slice a 0 c)) : PiecesAt 0 W (.slice (some ⟨b, 0, none⟩) 1 1) ([p] : List PF) := by
  refine ⟨b, 0, .inr ⟨1, rfl⟩, (by decide : (1 : Nat) ≤ 70368744177664), fun i hi => ?_⟩
  have hi' : i < 1 := hi
  match i, hi' with
  | 0, _ => exact ⟨a, c, h⟩
theorem one_item {W : World} {b : Nat} {lo hi : Int} (h0 : W.cell? ⟨b, 0, none⟩ = some (.int .i64 0)) (h1 : W.cell? ⟨b, 1, none⟩ = some (.int .u8 lo)) (h2 : W.cell? ⟨b, 2, none⟩ = some (.int .u8 hi)) (hl : 0 ≤ lo ∧ lo ≤ 255) (hh : 0 ≤ hi ∧ hi ≤ 255) : ItemsAt W (.slice (some ⟨b, 0, none⟩) 1 1) [⟨0, lo, hi⟩] := by
  refine ⟨b, 0, .inr ⟨1, rfl⟩, (by decide : (1 : Nat) ≤ 70368744177664), fun i hi => ?_⟩
  have hi' : i < 1 := hi
  match i, hi' with
  | 0, _ => exact ⟨h0, h1, h2, hl.1, hl.2, hh.1, hh.2⟩
theorem lit_range (w : World) (t u : TypeId) (lo hi : Int) (hl : 0 ≤ lo ∧ lo ≤ 255) (hh : 0 ≤ hi ∧ hi ≤ 255) :
    PiecesAt 0 ((w.alloc (.cells #[.int .i64 0, .int .u8 lo, .int .u8 hi] t)).alloc (.cells #[.int .i64 4, .string ⟨#[]⟩, .bool false, .slice (some ⟨w.heap.size, 0, none⟩) 1 1, .int .u8 0, .slice none 0 0] u)) (.slice (some ⟨w.heap.size + 1, 0, none⟩) 1 1) ([clP false [⟨0, lo, hi⟩]] : List PF) := by
  refine one_piece (a := none) (c := 0) ⟨.slice (some ⟨w.heap.size, 0, none⟩) 1 1, by simp [clP], by simp [clP], by simp [clP], by simp, by simp [clP], by simp, Nat.zero_le _, ?_, Int.le_refl _, by show (0 : Int) ≤ 255; decide⟩
  exact one_item (by simp) (by simp) (by simp) hl hh
theorem lit_items (w : World) (u : TypeId) (neg : Bool) (v : Value) (its : List It) (h : ItemsAt w v its) :
    PiecesAt 0 (w.alloc (.cells #[.int .i64 4, .string ⟨#[]⟩, .bool neg, v, .int .u8 0, .slice none 0 0] u)) (.slice (some ⟨w.heap.size, 0, none⟩) 1 1) ([clP neg its] : List PF) :=
  one_piece (a := none) (c := 0) ⟨v, by simp [clP], by simp [clP], by simp [clP], by simp, by simp [clP], by simp, (Nat.zero_le _), ItemsAt.kept ((Below.refl _ _).alloc (Nat.le_refl _) _) h, Int.le_refl _, by show (0 : Int) ≤ 255; decide⟩
end Go.Proofs.YtpfgmiocdgfniaaGreatFmt

namespace Go.Proofs.YtpfgmiocdgfniaaGreatFmt
open Go.ChangeShapes Go.WideShapes Go.ChangeAt Go.RowKit
theorem len_three {α : Type} : ∀ {l : List α}, l.length = 3 → ∃ a b c, l = [a, b, c]
  | [a, b, c], _ => ⟨a, b, c, rfl⟩
section
variable {H : Type} {enc : TypeId × Value → H} {w : World} {spare : Nat → Bool} {held : Bool}
theorem elem_at {P : Program} {a : Addr} {C i : Nat} {F : List Value → Option (DataW H × List MemPlace)} {elems : List (DataW H × List MemPlace)} (h : (w.cells? 0 (a.add (i * C)) C).bind F = elems[i]?) (hi : i < elems.length) :
    ∃ cs, cs.length = C ∧ (∀ j, j < C → w.cell? ((a.add (i * C)).add j) = cs[j]?) ∧ F cs = some elems[i] := by
  rw [List.getElem?_eq_getElem hi] at h
  obtain ⟨cs, hc, hF⟩ := Option.bind_eq_some_iff.1 h
  obtain ⟨_, hl, hat⟩ := World.cells?_some hc
  exact ⟨cs, hl, hat, hF⟩
theorem add_none (b o n : Nat) : (⟨b, o, none⟩ : Addr).add n = ⟨b, o + n, none⟩ := by unfold Addr.add; split <;> simp_all
theorem row_at {P : Program} {a : Addr} {C len n : Nat} {e : TypeId} {elems : List (DataW H × List MemPlace)} (hC : 0 < C) (hlen : elems.length = len) (hp : 0 < len)
    (hel : ∀ i, i < len → (w.cells? 0 (a.add (i * C)) C).bind (DataW.trod enc P w 0 spare held n e) = elems[i]?) :
    a.spot = none ∧ ∀ i (hi : i < elems.length), ∃ cs, cs.length = C ∧ (∀ j, j < C → w.cell? ⟨a.block, a.off + i * C + j, none⟩ = cs[j]?) ∧ DataW.trod enc P w 0 spare held n e cs = some elems[i] := by
  have hsp : a.spot = none := by
    obtain ⟨cs, hcl, hat, _⟩ := elem_at (P := P) (hel 0 hp) (by omega)
    have a0 := hat 0 hC
    rw [List.getElem?_eq_getElem (by omega)] at a0
    have := World.cell?_spot a0
    simpa [Addr.add] using this
  obtain ⟨b, o, s⟩ := a
  simp only at hsp
  subst hsp
  refine ⟨rfl, fun i hi => ?_⟩
  obtain ⟨cs, hcl, hat, hF⟩ := elem_at (P := P) (hel i (by omega)) hi
  refine ⟨cs, hcl, fun j hj => ?_, hF⟩
  have := hat j hj
  rwa [add_none, add_none] at this
theorem wf_u8 {n : Int} (h : (Lit.int .u8 n).wf = true) : 0 ≤ n ∧ n ≤ 255 := by
  have hmin : IntKind.u8.min = 0 := rfl
  have hmax : IntKind.u8.max = 255 := rfl
  simp only [Lit.wf, Bool.and_eq_true, decide_eq_true_eq] at h
  omega
theorem cellsItem : Tryz.prog.cellsOf 37 = 3 := by kernel_rfl
theorem cellsInt : Tryz.prog.cellsOf 3 = 1 := by kernel_rfl
theorem cellsU8 : Tryz.prog.cellsOf 5 = 1 := by kernel_rfl
theorem open_item {fuel : Nat} {cs : List Value} {x : DataW H × List MemPlace} (h : DataW.trod enc Tryz.prog w 0 spare held fuel 37 cs = some x) :
    ∃ it : It, cs = [.int .i64 it.cls, .int .u8 it.lo, .int .u8 it.hi] ∧ (0 ≤ it.lo ∧ it.lo ≤ 255 ∧ 0 ≤ it.hi ∧ it.hi ≤ 255) := by
  obtain ⟨xs, n, _, hx, hlen, hsz, hf⟩ := DataW.trod_struct Tryz.underlying37 h
  rw [cellsItem] at hlen
  obtain ⟨c0, c1, c2, rfl⟩ := len_three hlen
  obtain ⟨y0, y1, y2, rfl⟩ := len_three (show xs.length = 3 from hsz)
  have f0 := hf 0 _ rfl
  have f1 := hf 1 _ rfl
  have f2 := hf 2 _ rfl
  have g0 : DataW.trod enc Tryz.prog w 0 spare held n 3 [c0] = some y0 := by simpa [cellsInt] using f0
  have g1 : DataW.trod enc Tryz.prog w 0 spare held n 5 [c1] = some y1 := by simpa [cellsU8] using f1
  have g2 : DataW.trod enc Tryz.prog w 0 spare held n 5 [c2] = some y2 := by simpa [cellsU8] using f2
  obtain ⟨n0, e0, rfl, _⟩ := DataW.trod_int Tryz.underlying3 g0
  obtain ⟨n1, e1, rfl, w1⟩ := DataW.trod_int Tryz.underlying5 g1
  obtain ⟨n2, e2, rfl, w2⟩ := DataW.trod_int Tryz.underlying5 g2
  obtain rfl := List.head_eq_of_cons_eq e0
  obtain rfl := List.head_eq_of_cons_eq e1
  obtain rfl := List.head_eq_of_cons_eq e2
  have b1 := wf_u8 w1
  have b2 := wf_u8 w2
  exact ⟨⟨n0, n1, n2⟩, rfl, ⟨b1.1, b1.2, b2.1, b2.2⟩⟩
theorem sliceAt_of {a : Addr} {len cap : Nat} (h : 0 < len → a.spot = none) : SliceAt (.slice (some a) len cap) len a.block a.off := by
  by_cases hz : len = 0
  · subst hz; exact .inl ⟨rfl, _, _, rfl⟩
  · obtain ⟨b, o, s⟩ := a
    have : s = none := h (by omega)
    subst this
    exact .inr ⟨cap, rfl⟩
theorem open_items0 {fuel : Nat} {v : Value} {x : DataW H × List MemPlace} (h : DataW.trod enc Tryz.prog w 0 spare held fuel 38 [v] = some x) :
    ∃ a len cap, v = .slice a len cap ∧ (len ≤ 2147483647 → ∃ its : List It, its.length = len ∧ ItemsAt w v its) := by
  rcases DataW.trod_slice Tryz.underlying38 h with ⟨h0, hx⟩ | ⟨a, len, cap, elems, rest, n, _, hcs, hx, _, hl, hm, hlen, hel, _, _⟩
  · simp at h0
    subst h0 hx
    exact ⟨_, _, _, rfl, fun _ => ⟨[], rfl, 0, 0, .inl ⟨rfl, _, _, rfl⟩, by simp, fun i hi => by simp at hi⟩⟩
  · simp at hcs
    subst hcs hx
    rw [cellsItem] at hel
    refine ⟨_, _, _, rfl, fun hle => ?_⟩
    obtain ⟨its, hil, hip⟩ := choose_list (α := It) (n := len) (P := fun i it => a.spot = none ∧ w.cell? ⟨a.block, a.off + i * 3, none⟩ = some (.int .i64 it.cls) ∧ w.cell? ⟨a.block, a.off + i * 3 + 1, none⟩ = some (.int .u8 it.lo) ∧ w.cell? ⟨a.block, a.off + i * 3 + 2, none⟩ = some (.int .u8 it.hi) ∧ (0 ≤ it.lo ∧ it.lo ≤ 255 ∧ 0 ≤ it.hi ∧ it.hi ≤ 255)) (fun i hi => by
      obtain ⟨hsp, hrow⟩ := row_at (by omega) hlen (by omega) hel
      obtain ⟨cs, hcl, hat, hF⟩ := hrow i (by omega)
      obtain ⟨it, rfl, hr⟩ := open_item hF
      exact ⟨it, hsp, hat 0 (by omega), hat 1 (by omega), hat 2 (by omega), hr⟩)
    refine ⟨its, hil, a.block, a.off, by rw [hil]; exact sliceAt_of (fun h0 => (hip 0 (by omega)).1), by omega, fun i hi => ?_⟩
    obtain ⟨_, h1, h2, h3, h5⟩ := hip i (by omega)
    exact ⟨h1, h2, h3, h5⟩
end
end Go.Proofs.YtpfgmiocdgfniaaGreatFmt
