/- Joined by pack.py: ClA, ClB, ClD, ClE. -/
import Derived.Test.YtpfgmiocdgfniaaGreatFmtP28
set_option linter.unusedVariables false
set_option maxHeartbeats 8000000
set_option maxRecDepth 1000000
namespace Go.Proofs.YtpfgmiocdgfniaaGreatFmt
open Go.RowKit
theorem single_any (rb : Nat) (s : ByteArray) (i : Nat) (ok : Bool) (c : Nat) (r : List UInt8) (w : World) (h : RS rb s i ok w) (hs : s.size ≤ 4611686018427387904) (hr : Rm s i (UInt8.ofNat c :: r)) (hc : c < 128) (h92 : c ≠ 92) :
    Calls Tryz.prog 71 #[.pointer (some ⟨rb, 0, none⟩)] w fun e w' => e = .returned (.tuple #[.int .u8 c, .bool true]) ∧ RS rb s (i + 1) ok w' ∧ Kp (· = rb) w w' := by
  obtain ⟨c0, c1, c2, f1, f2, hlt⟩ := h.cells
  obtain ⟨hi, hat⟩ := hr.at
  have hsi : (((s[i]'hi).toNat : Nat) : Int) = (c : Int) := by rw [hat]; simp; omega
  have hle : decide (s.size ≤ i) = false := by simp; omega
  have hcl : decide ((c : Int) < 128) = true := by simp; omega
  have hw : IntKind.i64.wrap ((i : Int) + 1) = (i : Int) + 1 := IntWalk.i64_in _ (by omega)
  have hno : (ByteArray.mk #[92]).data.toList.isPrefixOf (UInt8.ofNat c :: r) = false := by
    have hne : (92 : UInt8) ≠ UInt8.ofNat c := by
      intro e
      have := congrArg UInt8.toNat e
      simp at this; omega
    simp [List.isPrefixOf, hne]
  have HS : Hid (∀ V, RS rb s i ok V → Calls Tryz.prog 32 #[.pointer (some ⟨rb, 0, none⟩), .string ⟨#[92]⟩] V fun e w' => e = .returned (.bool false) ∧ ∃ n, w' = V.drewN n) := Lib.hid fun V hV => skip_f rb s ⟨#[92]⟩ i ok V _ hV hs (by decide) hr hno
  have H := Lib.hid h
  clear h hr hat hno
  go_enter Tryz.func71, Tryz.ntmps71
  go_wp2
  go_quiet (fail)
  rename Nat => n1
  go_wp2_with fail
  refine (HS.out _ (H.out.drew n1)).mono ?_
  rintro e w1 ⟨rfl, n2, rfl⟩
  go_wp2
  go_quiet (fail)
  rename Nat => n3
  go_wp2
  go_ret2
  refine ⟨rfl, ?_, ?_⟩
  · exact RS.set (j := i + 1) (H.out.drew _)
  · exact Kp.setCell (X := (· = rb)) (p := ⟨rb, 1, none⟩) (Kp.drewN _ (Kp.refl _ w)) (.inl rfl) _
abbrev RG (w : World) : Prop := TB 3 rgL w
theorem rg_len (k : Nat) : (rgL k).length = 2 * (Re.clsR k).length := by
  have key : ∀ l : List (Nat × Nat), (l.flatMap fun p => [p.1, p.2]).length = 2 * l.length := by
    intro l
    induction l with
    | nil => rfl
    | cons p l ih => simp only [List.flatMap_cons, List.length_append, List.length_cons, List.length_nil, ih]; omega
  exact key _
theorem rg_at (k j : Nat) (hj : j < (Re.clsR k).length) : (rgL k)[2 * j]? = some (Re.clsR k)[j].1 ∧ (rgL k)[2 * j + 1]? = some (Re.clsR k)[j].2 := by
  have key : ∀ (l : List (Nat × Nat)) (j : Nat) (hj : j < l.length), (l.flatMap fun p => [p.1, p.2])[2 * j]? = some l[j].1 ∧ (l.flatMap fun p => [p.1, p.2])[2 * j + 1]? = some l[j].2 := by
    intro l
    induction l with
    | nil => intro j hj; cases hj
    | cons p l ih =>
      intro j hj
      cases j with
      | zero => simp
      | succ j =>
        have := ih j (by simpa using hj)
        have e : 2 * (j + 1) = 2 * j + 1 + 1 := by omega
        rw [e]
        simpa using this
  exact key _ j hj
theorem clsR_len (k : Nat) : (Re.clsR k).length ≤ 4 := by
  unfold Re.clsR
  split <;> simp
theorem clsR_lt (k : Nat) : ∀ p ∈ Re.clsR k, p.1 < 256 ∧ p.2 < 256 := by
  intro p hp
  unfold Re.clsR at hp
  split at hp <;> simp at hp <;> (try omega) <;> (rcases hp with rfl | rfl | rfl | rfl <;> simp) <;> omega
theorem cls_take (k j c : Nat) (hj : j < (Re.clsR k).length) (h : ((Re.clsR k).take j).any (fun r => decide (r.1 ≤ c) && decide (c ≤ r.2)) = false) (h2 : (decide ((Re.clsR k)[j].1 ≤ c) && decide (c ≤ (Re.clsR k)[j].2)) = false) : ((Re.clsR k).take (j + 1)).any (fun r => decide (r.1 ≤ c) && decide (c ≤ r.2)) = false := by
  rw [List.take_add_one, List.getElem?_eq_getElem hj, List.any_append, h]
  simpa using h2
theorem classOf_any (k c : Nat) (w : World) (hR : RG w) (hk : k < 13) (hc : c < 256) : Calls Tryz.prog 70 #[.int .i64 k, .int .u8 c] w fun e w' => e = .returned (.bool (Re.clsB k c)) ∧ w = w' := by
  obtain ⟨cb, co, cc, g0, g1⟩ := hR
  have g2 := g1 k hk
  obtain ⟨s, hs, hsz, hat⟩ : ∃ s : ByteArray, s = ByteArray.mk (bs (rgL k)).toArray ∧ s.size = 2 * (Re.clsR k).length ∧ ∀ j (hj : j < (Re.clsR k).length), ∃ (h1 : 2 * j < s.size) (h2 : 2 * j + 1 < s.size), (s[2 * j]).toNat = (Re.clsR k)[j].1 ∧ (s[2 * j + 1]).toNat = (Re.clsR k)[j].2 := by
    refine ⟨_, rfl, ?_, ?_⟩
    · show (bs (rgL k)).toArray.size = _
      simp [bs, rg_len]
    · intro j hj
      have hl : (bs (rgL k)).length = 2 * (Re.clsR k).length := by simp [bs, rg_len]
      obtain ⟨a1, a2⟩ := rg_at k j hj
      have hlt := clsR_lt k _ (List.getElem_mem hj)
      have e1 : (bs (rgL k))[2 * j]? = some (UInt8.ofNat (Re.clsR k)[j].1) := by simp only [bs, List.getElem?_map, a1]; rfl
      have e2 : (bs (rgL k))[2 * j + 1]? = some (UInt8.ofNat (Re.clsR k)[j].2) := by simp only [bs, List.getElem?_map, a2]; rfl
      refine ⟨by show _ < (bs (rgL k)).toArray.size; simp; omega, by show _ < (bs (rgL k)).toArray.size; simp; omega, ?_, ?_⟩
      · show ((bs (rgL k)).toArray[2 * j]'(by simp; omega)).toNat = _
        have := List.getElem?_eq_some_iff.1 e1
        rw [List.getElem_toArray, this.2]; simp; omega
      · show ((bs (rgL k)).toArray[2 * j + 1]'(by simp; omega)).toNat = _
        have := List.getElem?_eq_some_iff.1 e2
        rw [List.getElem_toArray, this.2]; simp; omega
  rw [← hs] at g2
  have hl4 := clsR_len k
  have HA := Lib.hid hat
  have HS := Lib.hid hsz
  have i0 : (0 : Int) ≤ (k : Int) := by omega
  have i1 : (k : Int) < 13 := by omega
  clear hs hat hsz g1
  go_enter Tryz.func70, Tryz.ntmps70
  go_wp2
  go_loopg [6] (Re.clsR k).length (fun g s6 wx => ∃ j p : Nat, j + g = (Re.clsR k).length ∧ p = 2 * j ∧ s6 = .int .i64 p ∧ ((Re.clsR k).take j).any (fun r => decide (r.1 ≤ c) && decide (c ≤ r.2)) = false ∧ wx = w)
  case atStart => exact ⟨0, 0, by omega, rfl, rfl, by simp, rfl⟩
  case round =>
    obtain ⟨j, p, hjg, hp, rfl, hno, rfl⟩ := hrel
    have hsz := HS.out
    cases gk with
    | zero =>
      obtain rfl : j = (Re.clsR k).length := by omega
      have hb : Re.clsB k c = false := by rw [List.take_of_length_le (Nat.le_refl _)] at hno; exact hno
      have d1 : decide ((p : Int) < (s.size : Int)) = false := by simp; omega
      have hsp : s.size ≤ p := by omega
      clear hno hsz hp
      go_wp2
      go_ret
      exact ⟨by rw [hb]; rfl, rfl⟩
    | succ g =>
      have hj : j < (Re.clsR k).length := by omega
      obtain ⟨h1, h2, hlo, hhi⟩ := HA.out j hj
      subst hp
      have i2 : ((2 * j : Nat) : Int) < (s.size : Int) := by omega
      obtain ⟨p, hp⟩ : ∃ p, 2 * j = p := ⟨_, rfl⟩
      have hstep := cls_take k j c hj hno
      have hany : (decide ((Re.clsR k)[j].1 ≤ c) && decide (c ≤ (Re.clsR k)[j].2)) = true → Re.clsB k c = true := fun h => List.any_eq_true.2 ⟨_, List.getElem_mem hj, h⟩
      have HST := Lib.hid hstep
      have HAN := Lib.hid hany
      simp only [hp] at h1 h2 hlo hhi i2
      have n1 : (((s[p]'h1).toNat : Nat) : Int) = ((Re.clsR k)[j].1 : Int) := by rw [hlo]
      have n2 : (((s[p + 1]'h2).toNat : Nat) : Int) = ((Re.clsR k)[j].2 : Int) := by rw [hhi]
      have i3 : (0 : Int) ≤ (p : Int) := by omega
      have i4 : (p : Int) + 1 < (s.size : Int) := by omega
      have i5 : (0 : Int) ≤ (p : Int) + 1 := by omega
      have i6 : ((p : Int) + 1).toNat = p + 1 := by omega
      rw [hp]
      generalize hL : (Re.clsR k)[j].1 = lo at *
      generalize hH : (Re.clsR k)[j].2 = hi at *
      clear hstep hany hno hlo hhi hsz
      by_cases c1 : lo ≤ c
      · have e1 : decide (lo ≤ c) = true := by simpa using c1
        by_cases c2 : c ≤ hi
        · have e2 : decide (c ≤ hi) = true := by simpa using c2
          have hb := HAN.out (by rw [e1, e2]; rfl)
          go_wp2
          go_ret
          exact ⟨by rw [hb]; rfl, rfl⟩
        · have e2 : decide (c ≤ hi) = false := by simpa using c2
          have hs2 := HST.out (by rw [e1, e2]; rfl)
          go_wp2
          go_roundg g
          case measure => omega
          case rel => exact ⟨j + 1, p + 2, by omega, by omega, by go_num, hs2, rfl⟩
      · have e1 : decide (lo ≤ c) = false := by simpa using c1
        have hs2 := HST.out (by rw [e1]; rfl)
        go_wp2
        go_roundg g
        case measure => omega
        case rel => exact ⟨j + 1, p + 2, by omega, by omega, by go_num, hs2, rfl⟩
end Go.Proofs.YtpfgmiocdgfniaaGreatFmt

namespace Go.Proofs.YtpfgmiocdgfniaaGreatFmt
open Go.RowKit
abbrev tIn : TypeId := 28
def inC (h : Nat → Bool) : Array Value := ((List.range 128).map fun c => Value.bool (h c)).toArray
theorem inC_size (h : Nat → Bool) : (inC h).size = 128 := by simp [inC]
theorem inC_get (h : Nat → Bool) (c : Nat) (hc : c < 128) : (inC h)[c]? = some (.bool (h c)) := by simp [inC, hc]
theorem inC_set (h : Nat → Bool) (c : Nat) (b : Bool) (hc : c < 128) : (inC h).setIfInBounds c (.bool b) = inC (fun x => if x = c then b else h x) := by
  apply Array.ext_getElem?
  intro j
  rw [Array.getElem?_setIfInBounds, inC_size]
  by_cases e : c = j
  · subst e
    rw [if_pos rfl, if_pos hc, inC_get _ c hc, if_pos rfl]
  · rw [if_neg e]
    by_cases hj : j < 128
    · rw [inC_get _ j hj, inC_get _ j hj, if_neg (fun h => e h.symm)]
    · rw [Array.getElem?_eq_none (by rw [inC_size]; omega), Array.getElem?_eq_none (by rw [inC_size]; omega)]
theorem inC_no : inC (fun _ => false) = Array.replicate 128 (.bool false) := by
  apply Array.ext_getElem?
  intro j
  by_cases hj : j < 128
  · rw [inC_get _ j hj]; simp [hj]
  · rw [Array.getElem?_eq_none (by rw [inC_size]; omega), Array.getElem?_eq_none (by simp; omega)]
def IN (ib : Nat) (h : Nat → Bool) (w : World) : Prop := w.heap[ib]? = some (.cells (inC h) 4 (0, 0))
theorem cls1_any (ib : Nat) (h : Nat → Bool) (t : TypeId) (c : Nat) (w : World) (hI : w.heap[ib]? = some (.cells (inC h) t (0, 0))) (hc : c < 128) :
    Calls Tryz.prog 69 #[.int .u8 c, .pointer (some ⟨ib, 0, none⟩)] w fun e w' => e = .returned (.bool (h c)) ∧ w = w' := by
  have g : w.cell? ⟨ib, c, none⟩ = some (.bool (h c)) := by rw [Lib.cell_of_heap hI]; exact inC_get h c hc
  have i0 : (0 : Int) ≤ (c : Int) := by omega
  have i1 : (c : Int) < 128 := by omega
  go_enter Tryz.func69, Tryz.ntmps69
  go_wp2
  go_ret
  exact ⟨rfl, rfl⟩
end Go.Proofs.YtpfgmiocdgfniaaGreatFmt

namespace Go.Proofs.YtpfgmiocdgfniaaGreatFmt
open Go.RowKit
open Re (CI)
theorem inC_zero : Tryz.zeroCells28 = inC (fun _ => false) := by kernel_rfl
structure CL (rb zb ib fb : Nat) (s : ByteArray) (j : Nat) (fold dot : Bool) (h : Nat → Bool) (w0 V : World) : Prop where
  r : RS rb s j true V
  f : FS fb fold dot V
  z : V.heap[zb]? = some (.cells reZ tRe (0, 0))
  i : V.heap[ib]? = some (.cells (inC h) tIn (0, 0))
  k : Kp (· = rb) w0 V
  ct : CT V
  b : rb < w0.heap.size ∧ w0.heap.size ≤ fb ∧ w0.heap.size ≤ zb ∧ w0.heap.size ≤ ib ∧ fb ≠ zb ∧ fb ≠ ib ∧ zb ≠ ib
section
variable {rb zb ib fb : Nat} {s : ByteArray} {j : Nat} {fold dot : Bool} {h : Nat → Bool} {w0 V : World}
theorem CL.call {j' : Nat} {w1 : World} (H : CL rb zb ib fb s j fold dot h w0 V) (hr : RS rb s j' true w1) (k : Kp (· = rb) V w1) : CL rb zb ib fb s j' fold dot h w0 w1 := by
  obtain ⟨b1, b2, b3, b4, b5, b6, b7⟩ := H.b
  exact ⟨hr, k.heap (by show ¬ fb = rb; omega) H.f, k.heap (by show ¬ zb = rb; omega) H.z, k.heap (by show ¬ ib = rb; omega) H.i, H.k.trans k, H.ct.kept k (fun b hb => by rw [show b = rb from hb]; exact H.r.noTab), H.b⟩
theorem CL.drew (n : Nat) (H : CL rb zb ib fb s j fold dot h w0 V) : CL rb zb ib fb s j fold dot h w0 (V.drewN n) := H.call (H.r.drew n) (Kp.drewN n (Kp.refl _ V))
theorem CL.at (j' : Nat) (H : CL rb zb ib fb s j fold dot h w0 V) : CL rb zb ib fb s j' fold dot h w0 (V.setCell ⟨rb, 1, none⟩ (.int .i64 j')) :=
  H.call (RS.set H.r) (Kp.setCell (X := (· = rb)) (p := ⟨rb, 1, none⟩) (Kp.refl _ V) (.inl rfl) _)
theorem inC_noTab {ib : Nat} {h : Nat → Bool} {V : World} {t : TypeId} (e : V.heap[ib]? = some (.cells (inC h) t (0, 0))) : noTab ib V := by
  refine ⟨fun a n c e1 => ?_, fun o t e1 => ?_⟩
  · rw [Lib.cell_of_heap e, inC_get _ 0 (by omega)] at e1; cases e1
  · rw [Lib.cell_of_heap e] at e1
    by_cases ho : o + 1 < 128
    · rw [inC_get _ _ ho] at e1; cases e1
    · rw [Array.getElem?_eq_none (by rw [inC_size]; omega)] at e1; cases e1
theorem CL.put {c : Nat} {b : Bool} (H : CL rb zb ib fb s j fold dot h w0 V) (hc : c < 128) : CL rb zb ib fb s j fold dot (fun x => if x = c then b else h x) w0 (V.setCell ⟨ib, c, none⟩ (.bool b)) := by
  obtain ⟨b1, b2, b3, b4, b5, b6, b7⟩ := H.b
  have k : Kp (· = ib) V (V.setCell ⟨ib, c, none⟩ (.bool b)) := Kp.setCell (X := (· = ib)) (p := ⟨ib, c, none⟩) (Kp.refl _ V) (.inl rfl) _
  refine ⟨H.r.kept k (by show ¬ rb = ib; omega), k.heap (by show ¬ fb = ib; omega) H.f, k.heap (by show ¬ zb = ib; omega) H.z, ?_, H.k.setCell (p := ⟨ib, c, none⟩) (.inr b4) _, H.ct.kept k (fun x hx => by rw [show x = ib from hx]; exact inC_noTab H.i), H.b⟩
  rw [heap_setCell_same _ _ _ _ _ _ H.i, inC_set _ _ _ hc]
theorem CL.eqv {h' : Nat → Bool} (H : CL rb zb ib fb s j fold dot h w0 V) (e : ∀ c, c < 128 → h c = h' c) : CL rb zb ib fb s j fold dot h' w0 V := by
  have e2 : inC h = inC h' := by
    apply Array.ext_getElem?
    intro i
    by_cases hi : i < 128
    · rw [inC_get _ i hi, inC_get _ i hi, e i hi]
    · rw [Array.getElem?_eq_none (by rw [inC_size]; omega), Array.getElem?_eq_none (by rw [inC_size]; omega)]
  exact ⟨H.r, H.f, H.z, e2 ▸ H.i, H.k, H.ct, H.b⟩
end
def dl2 : Code → Code | .seq _ b => b | c => c
def dbl' : Code → Code | .block _ c => c | c => c
def dlo : Code → Code | .loop c => c | c => c
noncomputable def clB : Code := Tryz.f55.body.getD .skip
noncomputable def clL : Code := dlo (dbl' (dl2 (dl2 (dl2 (dl2 clB)))))
structure CF (rb fb zb ib : Nat) (nt fst : Bool) (a : Array Value) : Prop where
  sz : a.size = 269
  s0 : a[0]? = some (.pointer (some ⟨rb, 0, none⟩))
  s3 : a[3]? = some (.pointer (some ⟨fb, 0, none⟩))
  s4 : a[4]? = some (.pointer (some ⟨zb, 0, none⟩))
  s5 : a[5]? = some (.bool nt)
  s6 : a[6]? = some (.pointer (some ⟨ib, 0, none⟩))
  s7 : a[7]? = some (.bool fst)
theorem lit269 (a : Array Value) (h : a.size = 269) : ∃ x : Nat → Value, a = #[x 0, x 1, x 2, x 3, x 4, x 5, x 6, x 7, x 8, x 9, x 10, x 11, x 12, x 13, x 14, x 15, x 16, x 17, x 18, x 19, x 20, x 21, x 22, x 23, x 24, x 25, x 26, x 27, x 28, x 29, x 30, x 31, x 32, x 33, x 34, x 35, x 36, x 37, x 38, x 39, x 40, x 41, x 42, x 43, x 44, x 45, x 46, x 47, x 48, x 49, x 50, x 51, x 52, x 53, x 54, x 55, x 56, x 57, x 58, x 59, x 60, x 61, x 62, x 63, x 64, x 65, x 66, x 67, x 68, x 69, x 70, x 71, x 72, x 73, x 74, x 75, x 76, x 77, x 78, x 79, x 80, x 81, x 82, x 83, x 84, x 85, x 86, x 87, x 88, x 89, x 90, x 91, x 92, x 93, x 94, x 95, x 96, x 97, x 98, x 99, x 100, x 101, x 102, x 103, x 104, x 105, x 106, x 107, x 108, x 109, x 110, x 111, x 112, x 113, x 114, x 115, x 116, x 117, x 118, x 119, x 120, x 121, x 122, x 123, x 124, x 125, x 126, x 127, x 128, x 129, x 130, x 131, x 132, x 133, x 134, x 135, x 136, x 137, x 138, x 139, x 140, x 141, x 142, x 143, x 144, x 145, x 146, x 147, x 148, x 149, x 150, x 151, x 152, x 153, x 154, x 155, x 156, x 157, x 158, x 159, x 160, x 161, x 162, x 163, x 164, x 165, x 166, x 167, x 168, x 169, x 170, x 171, x 172, x 173, x 174, x 175, x 176, x 177, x 178, x 179, x 180, x 181, x 182, x 183, x 184, x 185, x 186, x 187, x 188, x 189, x 190, x 191, x 192, x 193, x 194, x 195, x 196, x 197, x 198, x 199, x 200, x 201, x 202, x 203, x 204, x 205, x 206, x 207, x 208, x 209, x 210, x 211, x 212, x 213, x 214, x 215, x 216, x 217, x 218, x 219, x 220, x 221, x 222, x 223, x 224, x 225, x 226, x 227, x 228, x 229, x 230, x 231, x 232, x 233, x 234, x 235, x 236, x 237, x 238, x 239, x 240, x 241, x 242, x 243, x 244, x 245, x 246, x 247, x 248, x 249, x 250, x 251, x 252, x 253, x 254, x 255, x 256, x 257, x 258, x 259, x 260, x 261, x 262, x 263, x 264, x 265, x 266, x 267, x 268] := arr_rlst a 269 h
theorem CF.open {rb fb zb ib : Nat} {nt fst : Bool} {a : Array Value} {C : Array Value → Prop} (h : CF rb fb zb ib nt fst a)
    (hx : ∀ x : Nat → Value, C #[.pointer (some ⟨rb, 0, none⟩), x 1, x 2, .pointer (some ⟨fb, 0, none⟩), .pointer (some ⟨zb, 0, none⟩), .bool nt, .pointer (some ⟨ib, 0, none⟩), .bool fst, x 8, x 9, x 10, x 11, x 12, x 13, x 14, x 15, x 16, x 17, x 18, x 19, x 20, x 21, x 22, x 23, x 24, x 25, x 26, x 27, x 28, x 29, x 30, x 31, x 32, x 33, x 34, x 35, x 36, x 37, x 38, x 39, x 40, x 41, x 42, x 43, x 44, x 45, x 46, x 47, x 48, x 49, x 50, x 51, x 52, x 53, x 54, x 55, x 56, x 57, x 58, x 59, x 60, x 61, x 62, x 63, x 64, x 65, x 66, x 67, x 68, x 69, x 70, x 71, x 72, x 73, x 74, x 75, x 76, x 77, x 78, x 79, x 80, x 81, x 82, x 83, x 84, x 85, x 86, x 87, x 88, x 89, x 90, x 91, x 92, x 93, x 94, x 95, x 96, x 97, x 98, x 99, x 100, x 101, x 102, x 103, x 104, x 105, x 106, x 107, x 108, x 109, x 110, x 111, x 112, x 113, x 114, x 115, x 116, x 117, x 118, x 119, x 120, x 121, x 122, x 123, x 124, x 125, x 126, x 127, x 128, x 129, x 130, x 131, x 132, x 133, x 134, x 135, x 136, x 137, x 138, x 139, x 140, x 141, x 142, x 143, x 144, x 145, x 146, x 147, x 148, x 149, x 150, x 151, x 152, x 153, x 154, x 155, x 156, x 157, x 158, x 159, x 160, x 161, x 162, x 163, x 164, x 165, x 166, x 167, x 168, x 169, x 170, x 171, x 172, x 173, x 174, x 175, x 176, x 177, x 178, x 179, x 180, x 181, x 182, x 183, x 184, x 185, x 186, x 187, x 188, x 189, x 190, x 191, x 192, x 193, x 194, x 195, x 196, x 197, x 198, x 199, x 200, x 201, x 202, x 203, x 204, x 205, x 206, x 207, x 208, x 209, x 210, x 211, x 212, x 213, x 214, x 215, x 216, x 217, x 218, x 219, x 220, x 221, x 222, x 223, x 224, x 225, x 226, x 227, x 228, x 229, x 230, x 231, x 232, x 233, x 234, x 235, x 236, x 237, x 238, x 239, x 240, x 241, x 242, x 243, x 244, x 245, x 246, x 247, x 248, x 249, x 250, x 251, x 252, x 253, x 254, x 255, x 256, x 257, x 258, x 259, x 260, x 261, x 262, x 263, x 264, x 265, x 266, x 267, x 268]) : C a := by
  obtain ⟨x, rfl⟩ := lit269 a h.sz
  have h0 : x 0 = _ := Option.some.inj h.s0
  have h3 : x 3 = _ := Option.some.inj h.s3
  have h4 : x 4 = _ := Option.some.inj h.s4
  have h5 : x 5 = _ := Option.some.inj h.s5
  have h6 : x 6 = _ := Option.some.inj h.s6
  have h7 : x 7 = _ := Option.some.inj h.s7
  rw [h0, h3, h4, h5, h6, h7]
  exact hx x
theorem more_yes (rb : Nat) (s : ByteArray) (j : Nat) (c : UInt8) (r : List UInt8) (hm : Rm s j (c :: r)) : ∀ w, RS rb s j true w → Calls Tryz.prog 31 #[.pointer (some ⟨rb, 0, none⟩)] w fun e w' => e = .returned (.bool true) ∧ ∃ n, w' = w.drewN n := by
  intro w h
  obtain ⟨hi, _⟩ := hm.at
  have := more_any rb s j true w h
  rw [show decide ((j : Int) < (s.size : Int)) = true from by simp; omega] at this
  exact this
theorem enters72 : ∀ args w, (callFunc 69 args).run Tryz.prog w = .ok (.enter 69 args) w := Go.Proofs.enters_of Tryz.func69 (by kernel_rfl) rfl
end Go.Proofs.YtpfgmiocdgfniaaGreatFmt

namespace Go.Proofs.YtpfgmiocdgfniaaGreatFmt
open Go.RowKit
open Re (CI)
theorem setL_congr (p q : Nat → Bool) (fold neg : Bool) (h : ∀ c, c < 128 → p c = q c) : Re.setL p fold neg = Re.setL q fold neg := by
  unfold Re.setL
  apply List.map_congr_left
  intro c hc
  have hc := List.mem_range.1 hc
  rw [h c hc, h _ (oth_lt hc)]
def CRet (rb zb : Nat) (s : ByteArray) (j : Nat) (set : List Bool) (w0 : World) (Q : Exit → Act → World → Prop) : Prop :=
  ∀ (a : Array Value) (V : World), a.size = 269 → a[4]? = some (.pointer (some ⟨zb, 0, none⟩)) → V.heap[zb]? = some (.cells (reC 1 (set.map .bool) (.slice none 0 0) 0 0) tRe (0, 0)) → RS rb s j true V → Kp (· = rb) w0 V → Q .ret ⟨a, []⟩ V
theorem cl_end (rb fb zb ib : Nat) (nt : Bool) (s : ByteArray) (j : Nat) (r : List UInt8) (fold dot : Bool) (h : Nat → Bool) (w0 V : World) (Q : Exit → Act → World → Prop) (fuel : Nat) (a : Array Value)
    (hF : CF rb fb zb ib nt false a) (hC : CL rb zb ib fb s j fold dot h w0 V) (hs : s.size ≤ 274877906944) (hm : Rm s j (UInt8.ofNat 93 :: r)) (hQ : CRet rb zb s (j + 1) (Re.setL h fold nt) w0 Q) :
    Code.rounds Tryz.prog clL Q (fuel + 1) ⟨a, []⟩ V := by
  rw [rounds_succ]
  refine CF.open (C := fun a => Code.wp Tryz.prog clL _ ⟨a, []⟩ V) hF fun x => ?_
  have HQ := Lib.hid hQ
  have HC := Lib.hid hC
  have HM := Lib.hid hm
  have MY := Lib.hid (more_yes rb s j _ r hm)
  have EK := Lib.hid enters72
  clear hQ hC hF hm
  simp only [clL, clB, Tryz.f55, Option.getD_some, dl2, dbl', dlo]
  go_wp2_with fail
  refine (MY.out _ HC.out.r).mono ?_
  rintro e w1 ⟨rfl, n, rfl⟩
  go_wp2_with fail
  refine (skip_t rb s ⟨#[93]⟩ j true _ _ (HC.out.drew n).r (by omega) HM.out).mono ?_
  rintro e w1 ⟨rfl, hr1, hk1⟩
  have HC1 := Lib.hid ((HC.out.drew n).call hr1 hk1)
  obtain ⟨f0, f1, _⟩ := HC1.out.f.cells
  clear hr1 hk1
  go_wp2_with fail
  refine (setOf_any 69 (.pointer (some ⟨ib, 0, none⟩)) h fold dot nt w1 EK.out (fun c w' hc k => cls1_any ib h tIn c w' (k.heap id HC1.out.i) hc)).mono ?_
  rintro e w2 ⟨rfl, hb⟩
  have k2 : Kp (fun _ => False) w1 w2 := Kp.of_below hb
  have z2 := k2.heap id HC1.out.z
  have r2 := HC1.out.r.kept k2 id
  have K2 : Kp (· = rb) w0 w2 := HC1.out.k.trans k2.false_mono
  have HZ := Lib.hid z2
  have HR2 := Lib.hid r2
  have HK2 := Lib.hid K2
  have hbz : rb ≠ zb := by have := HC1.out.b; omega
  have hzz : w0.heap.size ≤ zb := HC1.out.b.2.2.1
  clear hb k2 z2 r2 K2 f0 f1
  go_wp2_with fail
  rw [storeRe _ zb reZ _ HZ.out rfl rfl (oneC_reC oneC_map rfl)]
  go_wp2
  refine HQ.out _ _ rfl rfl (setRow_heap _ _ reZ _ tRe (0, 0) HZ.out) ?_ (HK2.out.setRow (.inr hzz) _)
  unfold RS
  rw [setRow_other _ _ _ _ hbz]
  exact HR2.out
end Go.Proofs.YtpfgmiocdgfniaaGreatFmt
