/- Joined by pack.py: EnD, EnE, EnF, EnG, EnH. -/
import Derived.Test.YtpfgmiocdgfniaaGreatFmtP28
import Derived.Test.YtpfgmiocdgfniaaGreatFmtP21
set_option linter.unusedVariables false
set_option maxHeartbeats 8000000
set_option maxRecDepth 1000000
namespace Go.Proofs.YtpfgmiocdgfniaaGreatFmt
open Go.RowKit
open Re (Fo nodeE mean setE begE finE falses)
theorem setE_at (s : List UInt8) (set x : List Bool) (hx : x.length = s.length + 1) (k : Nat) (hk : k < s.length) : (setE s set x)[k + 1]'(by rw [Re.setE_length s set x hx]; omega) = (x[k]'(by omega) && (decide (s[k].toNat < 128) && set.getD s[k].toNat false)) := by
  simp [setE]
def EndsOK (k : Nat) (set : List Bool) (kids : Fo) (l m : Int) : Prop :=
  ∀ (w : World) (c : Array Value) (s : ByteArray) (b : Nat) (v : Value) (x : List Bool), Nd (fun _ => True) w k set kids l m c → BL w b v x → x.length = s.size + 1 → s.size ≤ 274877906944 →
    Calls Tryz.prog 19 #[.agg c, .string s, v] w (EndsPost (nodeE s.data.toList k set (mean s.data.toList kids) l m x) w)
theorem reC_0 (k : Int) (set : List Value) (kv : Value) (l m : Int) : (reC k set kv l m)[0]? = some (.int .i64 k) := by simp [reC]
theorem reC_at (k : Int) (set : List Value) (kv : Value) (l m : Int) (j : Nat) (h : j < set.length) : (reC k set kv l m)[1 + j]? = some set[j] := by
  rw [Nat.add_comm]
  simp [reC, List.getElem?_append_left h]
theorem reC_kv (k : Int) (set : List Value) (kv : Value) (l m : Int) (h : set.length = 128) : (reC k set kv l m)[129]? = some kv := by
  simp [reC, h]
theorem reC_l (k : Int) (set : List Value) (kv : Value) (l m : Int) (h : set.length = 128) : (reC k set kv l m)[130]? = some (.int .i64 l) := by
  simp [reC, h]
theorem reC_m (k : Int) (set : List Value) (kv : Value) (l m : Int) (h : set.length = 128) : (reC k set kv l m)[131]? = some (.int .i64 m) := by
  simp [reC, h]
attribute [local go_sem ↓] mk_eq
attribute [local go_sem] run_mkB1
structure En (c : Array Value) (n : Nat) (w V : World) : Prop where
  box : V.heap[w.heap.size]? = some (.cells c tRe (0, 0))
  out : V.heap[w.heap.size + 1]? = some (.cells (Array.replicate (n + 1) (.bool false)) 4 (0, 0))
  size : V.heap.size = w.heap.size + 2
  kp : Kp (fun _ => False) w V
theorem En.start (c : Array Value) (n : Nat) (w : World) : En c n w ((w.alloc (.cells c tRe)).alloc (.cells (Array.replicate (n + 1) (.bool false)) 4)) := by
  refine ⟨?_, ?_, by simp, ((Kp.refl _ _).alloc _).alloc _⟩
  · rw [Lib.alloc_old _ _ _ (by simp)]; exact heap_alloc_new w _
  · have := heap_alloc_new (w.alloc (.cells c tRe)) (.cells (Array.replicate (n + 1) (.bool false)) 4); simpa using this
theorem En.cell {c : Array Value} {n : Nat} {w V : World} (h : En c n w V) {o : Nat} {v : Value} (hc : c[o]? = some v) : V.cell? ⟨w.heap.size, o, none⟩ = some v := by
  rw [Lib.cell_of_heap h.box]; exact hc
theorem En.old {c : Array Value} {n : Nat} {w V : World} (h : En c n w V) (j : Nat) (hj : j < n + 1) : V.cell? ⟨w.heap.size + 1, j, none⟩ = some (.bool false) := by
  rw [Lib.cell_of_heap h.out]; simp [hj]
theorem En.part {c : Array Value} {n : Nat} {w V : World} (h : En c n w V) (L : List Bool) (hL : L.length = n + 1) : V.heap[w.heap.size + 1]? = some (.cells (part L 0) 4 (0, 0)) := by
  rw [part_zero, hL]; exact h.out
theorem EndsPost.of_row {c : Array Value} {n : Nat} {w V V' : World} {L : List Bool} {m cap : Nat} (h : En c n w V) (hk : Kp (fun x => x = w.heap.size + 1) V V') (hr : V'.heap[w.heap.size + 1]? = some (.cells (Go.Proofs.YtpfgmiocdgfniaaGreatFmt.part L L.length) 4 (0, 0))) (hm : m = L.length) :
    EndsPost L w (.returned (.slice (some ⟨w.heap.size + 1, 0, none⟩) m cap)) V' :=
  ⟨_, w.heap.size + 1, rfl, BL.of_row hr hm, (h.kp.false_mono.trans hk : Kp (fun x => x = w.heap.size + 1) w V').below (Nat.le_refl _) (fun k hk => by show ¬ k = w.heap.size + 1; omega)⟩
theorem begE_length (n : Nat) (x : List Bool) : (begE n x).length = n + 1 := by simp [begE, falses]
theorem finE_length (n : Nat) (x : List Bool) : (finE n x).length = n + 1 := by simp [finE, falses]
theorem ends_beg (set : List Bool) (kids : Fo) (l m : Int) : EndsOK 5 set kids l m := by
  intro w c s b v x hN hB hx hs
  obtain ⟨hl, kv, cs, hc, hsl, hk⟩ := hN
  have e0 : c[0]? = some (.int .i64 5) := by rw [hc]; exact reC_0 _ _ _ _ _
  have hE := Lib.hid (En.start c s.size w)
  obtain ⟨⟨cp, rfl⟩, h1, h2⟩ := hB
  clear hsl hk hc
  go_enter Tryz.func19, Tryz.ntmps19
  go_upto_region 2 with fail
  obtain ⟨V, hV⟩ : ∃ V, (w.alloc (.cells c tRe)).alloc (.cells (Array.replicate (s.size + 1) (.bool false)) 4) = V := ⟨_, rfl⟩
  rw [hV] at hE
  rw [hV]
  clear hV
  have b0 := hE.out.cell e0
  have g0 : 0 < x.length := by omega
  have g1 := hE.out.kp.cell id (range_bl h1 0 g0)
  have g2 := hE.out.old 0 (by omega)
  have g3 : V.frozen? ⟨w.heap.size + 1, 0, none⟩ = false := Lib.frozen_of_heap hE.out.out 0
  have i0 : (0 : Int) < (x.length : Int) := by omega
  have i1 : (0 : Int) < (s.size : Int) + 1 := by omega
  go_wp2
  go_ret
  have e : nodeE s.data.toList 5 set (mean s.data.toList kids) l m x = begE s.size x := by
    show begE s.data.toList.length x = _
    rw [Pat.size_toList]
  rw [e]
  have hL := begE_length s.size x
  have h1L : part (begE s.size x) (1 + s.size) = part (begE s.size x) 1 := part_up _ 1 s.size (by omega) (fun j hj h1 _ => by
    obtain ⟨j, rfl⟩ : ∃ q, j = q + 1 := ⟨j - 1, by omega⟩
    simp [begE, falses])
  refine EndsPost.of_row hE.out (Kp.setCell (X := fun x => x = w.heap.size + 1) (p := ⟨w.heap.size + 1, 0, none⟩) (Kp.refl _ V) (.inl rfl) _) ?_ hL.symm
  rw [heap_setCell_row (hE.out.part (begE s.size x) hL), part_succ _ 0 (by omega) x[0] (by simp [begE, g0]), hL, Nat.add_comm s.size 1, h1L]
theorem ends_fin (set : List Bool) (kids : Fo) (l m : Int) : EndsOK 6 set kids l m := by
  intro w c s b v x hN hB hx hs
  obtain ⟨hl, kv, cs, hc, hsl, hk⟩ := hN
  have e0 : c[0]? = some (.int .i64 6) := by rw [hc]; exact reC_0 _ _ _ _ _
  have hE := Lib.hid (En.start c s.size w)
  obtain ⟨⟨cp, rfl⟩, h1, h2⟩ := hB
  clear hsl hk hc
  go_enter Tryz.func19, Tryz.ntmps19
  go_upto_region 2 with fail
  obtain ⟨V, hV⟩ : ∃ V, (w.alloc (.cells c tRe)).alloc (.cells (Array.replicate (s.size + 1) (.bool false)) 4) = V := ⟨_, rfl⟩
  rw [hV] at hE
  rw [hV]
  clear hV
  have b0 := hE.out.cell e0
  have g0 : s.size < x.length := by omega
  have g1 := hE.out.kp.cell id (range_bl h1 s.size g0)
  have g2 := hE.out.old s.size (by omega)
  have g3 : V.frozen? ⟨w.heap.size + 1, s.size, none⟩ = false := Lib.frozen_of_heap hE.out.out s.size
  have i0 : (s.size : Int) < (x.length : Int) := by omega
  have i1 : (s.size : Int) < (s.size : Int) + 1 := by omega
  have i2 : (0 : Int) ≤ (s.size : Int) := by omega
  go_wp2
  go_ret
  have e : nodeE s.data.toList 6 set (mean s.data.toList kids) l m x = finE s.size x := by
    show finE s.data.toList.length x = _
    rw [Pat.size_toList]
  rw [e]
  have hL := finE_length s.size x
  have h1L : part (finE s.size x) (0 + s.size) = part (finE s.size x) 0 := part_up _ 0 s.size (by omega) (fun j hj h1 h2 => by
    simp only [finE]
    rw [List.getElem_append_left (by simp [falses]; omega)]
    simp [falses])
  refine EndsPost.of_row hE.out (Kp.setCell (X := fun x => x = w.heap.size + 1) (p := ⟨w.heap.size + 1, s.size, none⟩) (Kp.refl _ V) (.inl rfl) _) ?_ hL.symm
  rw [heap_setCell_row (hE.out.part (finE s.size x) hL), ← h1L, Nat.zero_add, part_succ _ s.size (by omega) x[s.size] (by simp [finE, falses, g0]), hL]
theorem ends_set (set : List Bool) (kids : Fo) (l m : Int) : EndsOK 1 set kids l m := by
  intro w c s b v x hN hB hx hs
  obtain ⟨hl, kv, cs, hc, hsl, hk⟩ := hN
  have hlb : (set.map Value.bool).length = 128 := by simpa using hl
  have e0 : c[0]? = some (.int .i64 1) := by rw [hc]; exact reC_0 _ _ _ _ _
  have e1 : ∀ j (h : j < set.length), c[1 + j]? = some (.bool set[j]) := fun j h => by rw [hc, reC_at _ _ _ _ _ j (by rw [hlb]; omega)]; simp
  have hE := Lib.hid (En.start c s.size w)
  obtain ⟨⟨cp, rfl⟩, h1, h2⟩ := hB
  clear hsl hk hc
  have e : nodeE s.data.toList 1 set (mean s.data.toList kids) l m x = setE s.data.toList set x := rfl
  rw [e]
  have hsz := Pat.size_toList s
  obtain ⟨L, hLe, hL, h0, hat⟩ : ∃ L, setE s.data.toList set x = L ∧ L.length = s.size + 1 ∧ (∀ h : 0 < L.length, L[0] = false) ∧ ∀ k (hk : k < s.size) (hk2 : k < x.length) (hk3 : k + 1 < L.length), L[k + 1] = (x[k] && (decide ((s[k]).toNat < 128) && set.getD (s[k]).toNat false)) :=
    ⟨_, rfl, by rw [Re.setE_length _ _ _ (by omega), hsz], fun _ => rfl, fun k hk hk2 hk3 => by
      rw [setE_at s.data.toList set x (by omega) k (by omega)]
      rw [show s.data.toList[k]'(by omega) = s[k] from by simp [ByteArray.getElem_eq_getElem_data]]⟩
  rw [hLe]
  clear e hLe hsz
  go_enter Tryz.func19, Tryz.ntmps19
  go_upto_region 2 with fail
  obtain ⟨V, hV⟩ : ∃ V, (w.alloc (.cells c tRe)).alloc (.cells (Array.replicate (s.size + 1) (.bool false)) 4) = V := ⟨_, rfl⟩
  rw [hV] at hE
  rw [hV]
  clear hV
  have b0 := hE.out.cell e0
  have HL : Hid (V.heap[w.heap.size + 1]? = some (.cells (part L 1) 4 (0, 0))) := Lib.hid (by rw [part_false L 0 (by omega) (h0 (by omega))]; exact hE.out.part L hL)
  go_wp2
  go_loopg [8] s.size (fun g s8 wx => ∃ k : Nat, k + g = s.size ∧ s8 = .int .i64 k ∧ Kp (fun x => x = w.heap.size + 1) V wx ∧ wx.heap[w.heap.size + 1]? = some (.cells (part L (k + 1)) 4 (0, 0)))
  case atStart => exact ⟨0, by omega, rfl, Kp.refl _ _, HL.out⟩
  case round =>
    obtain ⟨k, hcg, rfl, hK, hH⟩ := hrel
    cases gk with
    | zero =>
      obtain rfl : k = s.size := by omega
      go_wp2
      go_ret
      exact EndsPost.of_row hE.out hK (by rw [hL]; exact hH) hL.symm
    | succ g =>
      have hk1 : k < s.size := by omega
      have g0 : k < x.length := by omega
      have g1 := hK.cell (by show ¬ b = w.heap.size + 1; omega) (hE.out.kp.cell id (range_bl h1 k g0))
      have g2 : wr.cell? ⟨w.heap.size + 1, k + 1, none⟩ = some (.bool false) := by
        rw [Lib.cell_of_heap hH]; exact part_old L (k + 1) (by omega)
      have g4 : wr.frozen? ⟨w.heap.size + 1, k + 1, none⟩ = false := Lib.frozen_of_heap hH (k + 1)
      have i0 : (k : Int) < (s.size : Int) := by omega
      have i1 : (k : Int) < (x.length : Int) := by omega
      have i2 : (0 : Int) ≤ (k : Int) := by omega
      have i3 : (k : Int) + 1 < (s.size : Int) + 1 := by omega
      have i4 : (0 : Int) ≤ (k : Int) + 1 := by omega
      have i5 : ((k : Int) + 1).toNat = k + 1 := by omega
      have hLk := hat k hk1 g0 (by omega)
      generalize hx1 : x[k]'g0 = xk at g1 hLk
      have fin : ∀ (z : Bool), L[k + 1]'(by omega) = z → ∃ k2 : Nat, k2 + g = s.size ∧ Value.int .i64 ((k : Int) + 1) = .int .i64 k2 ∧ Kp (fun x => x = w.heap.size + 1) V (wr.setCell ⟨w.heap.size + 1, k + 1, none⟩ (.bool z)) ∧ (wr.setCell ⟨w.heap.size + 1, k + 1, none⟩ (.bool z)).heap[w.heap.size + 1]? = some (.cells (part L (k2 + 1)) 4 (0, 0)) :=
        fun z hz => ⟨k + 1, by omega, rfl, hK.setCell (.inl rfl) _, by rw [heap_setCell_row hH, part_succ L (k + 1) (by omega) z hz]⟩
      have FI := Lib.hid fin
      clear fin
      cases xk with
      | false =>
        go_wp2
        go_roundg g
        case measure => omega
        case rel => exact FI.out _ (by rw [hLk]; rfl)
      | true =>
        have hb0 : (s[k]).toNat < 256 := UInt8.toNat_lt _
        by_cases hb : (s[k]).toNat < 128
        · have i6 : ((s[k]).toNat : Int) < 128 := by omega
          have i7 : (0 : Int) ≤ ((s[k]).toNat : Int) := by omega
          have g5 := hK.cell (by show ¬ w.heap.size = w.heap.size + 1; omega) (hE.out.cell (e1 (s[k]).toNat (by omega)))
          have hz : L[k + 1]'(by omega) = set[(s[k]).toNat]'(by omega) := by rw [hLk]; simp [hb, hl]
          generalize set[(s[k]).toNat]'(by omega) = z at g5 hz
          cases z
          all_goals
            go_wp2
            go_roundg g
            case measure => omega
            case rel => exact FI.out _ hz
        · have i6 : ¬ ((s[k]).toNat : Int) < 128 := by omega
          have hz : L[k + 1]'(by omega) = false := by rw [hLk]; simp [hb]
          clear hx
          go_wp2
          go_roundg g
          case measure => omega
          case rel => exact FI.out _ hz
end Go.Proofs.YtpfgmiocdgfniaaGreatFmt

namespace Go.Proofs.YtpfgmiocdgfniaaGreatFmt
open Go.RowKit
open Re (Fo nodeE mean setE begE finE falses)
def AllOK : Fo → Prop
  | .nil => True
  | .cons k set kids l m rest => EndsOK k set kids l m ∧ AllOK rest
def reAt (w : World) : Value → Array Value
  | .pointer (some ⟨g, o, none⟩) => (match w.heap[g]? with | some (.cells cur _ _) => ((cur.toList.drop o).take 132).toArray | _ => #[])
  | _ => #[]
def reOk (w : World) (v : Value) : Prop := ∃ g o cur, v = .pointer (some ⟨g, o, none⟩) ∧ w.heap[g]? = some (.cells cur tRe (0, 0)) ∧ o + 132 ≤ cur.size
theorem reAt_eq {w : World} {g o : Nat} {cur : Array Value} (h : w.heap[g]? = some (.cells cur tRe (0, 0))) : reAt w (.pointer (some ⟨g, o, none⟩)) = ((cur.toList.drop o).take 132).toArray := by simp [reAt, h]
theorem run_ldAt (w : World) (v : Value) (h : reOk w v) : (ldRe v).run Tryz.prog w = .ok (.agg (reAt w v)) w := by
  obtain ⟨g, o, cur, rfl, hg, ho⟩ := h
  rw [reAt_eq hg]
  exact run_loadAt_mid w g o tRe _ _ (fun j v hv => by
    have hj : j < 132 := by have := (List.getElem?_eq_some_iff.1 hv).1; simp at this; omega
    rw [List.getElem?_take_of_lt hj, List.getElem?_drop] at hv
    rw [Lib.cell_of_heap hg, ← Array.getElem?_toList]
    exact hv) Tryz.underlying31 rfl (by rw [sizeRe]; simp; omega)
theorem box_at {w : World} {c : Array Value} (hc : c.size = 132) : reOk (w.alloc (.cells c tRe)) (.pointer (some ⟨w.heap.size, 0, none⟩)) ∧ reAt (w.alloc (.cells c tRe)) (.pointer (some ⟨w.heap.size, 0, none⟩)) = c := by
  have h := heap_alloc_new w (.cells c tRe)
  refine ⟨⟨_, 0, c, rfl, h, by omega⟩, ?_⟩
  rw [reAt_eq h, List.drop_zero, List.take_of_length_le (by simp; omega)]
theorem Sl.form {P : Nat → Prop} {w : World} {v : Value} {n : Nat} {xs : List Value} (h : Sl P w v n xs) : ∃ a cap, v = .slice a n cap := by
  rcases h.2 with ⟨rfl, rfl⟩ | ⟨g, cap, cur, rfl, _⟩
  · exact ⟨none, 0, rfl⟩
  · exact ⟨_, cap, rfl⟩
theorem Fo.len_pos {B : Fo} {g : Nat} (h : B.len = g + 1) : ∃ k set kk l m rest, B = .cons k set kk l m rest ∧ rest.len = g := by
  cases B with
  | nil => simp [Fo.len] at h
  | cons k set kk l m rest => exact ⟨k, set, kk, l, m, rest, rfl, by simp [Fo.len] at h; exact h⟩
theorem elem_of {P : Nat → Prop} {w : World} {kv : Value} {n i : Nat} {cs : List Value} {k : Nat} {set : List Bool} {kk : Fo} {l m : Int} {rest : Fo} (hs : Sl P w kv n cs) (hi : i < n) (hF : FoC P w (.cons k set kk l m rest) (cs.drop (i * 132))) :
    ∃ g cap cur c, kv = .slice (some ⟨g, 0, none⟩) n cap ∧ w.heap[g]? = some (.cells cur tRe (0, 0)) ∧ i * 132 + 132 ≤ cur.size ∧ ((cur.toList.drop (i * 132)).take 132).toArray = c ∧ Nd P w k set kk l m c ∧ FoC P w rest (cs.drop ((i + 1) * 132)) := by
  rcases hs.2 with ⟨_, h0⟩ | ⟨g, cap, cur, hv, _, hg, hn, _, hsz, ht⟩
  · omega
  obtain ⟨hl, kv2, cs2, ys, hx, hs2, hk2, hr⟩ := hF
  have hc : (reC k (set.map .bool) kv2 l m).toList.length = 132 := by rw [Array.length_toList, reC_size (by simpa using hl)]
  refine ⟨g, cap, cur, reC k (set.map .bool) kv2 l m, hv, hg, ?_, ?_, ⟨hl, kv2, cs2, rfl, hs2, hk2⟩, ?_⟩
  · rw [hsz]
    have : (i + 1) * 132 ≤ cap * 132 := Nat.mul_le_mul_right _ (by omega)
    omega
  · have e1 : (cs.drop (i * 132)).take 132 = (reC k (set.map .bool) kv2 l m).toList := by rw [hx, ← hc, List.take_left]
    have e2 : (cs.drop (i * 132)).take 132 = (cur.toList.drop (i * 132)).take 132 := by
      rw [← ht, List.drop_take, List.take_take]
      congr 1
      have : (i + 1) * 132 ≤ n * 132 := Nat.mul_le_mul_right _ (by omega)
      omega
    rw [← e2, e1]
  · have e : (i + 1) * 132 = i * 132 + 132 := by omega
    rw [e, ← List.drop_drop, hx, ← hc, List.drop_left]
    exact hr
theorem Sl.le {P : Nat → Prop} {w : World} {v : Value} {n : Nat} {xs : List Value} (h : Sl P w v n xs) : n ≤ 9223372036854775807 := by
  rcases h.2 with ⟨_, rfl⟩ | ⟨g, cap, cur, _, _, _, h1, h2, _⟩
  · omega
  · unfold maxLen at h2; omega
theorem mean_seq_cons (s : List UInt8) (k : Nat) (set : List Bool) (kids : Fo) (l m : Int) (rest : Fo) (x : List Bool) : (mean s (.cons k set kids l m rest)).seq x = (mean s rest).seq (nodeE s k set (mean s kids) l m x) := rfl
theorem mean_alt_cons (s : List UInt8) (k : Nat) (set : List Bool) (kids : Fo) (l m : Int) (rest : Fo) (acc x : List Bool) : (mean s (.cons k set kids l m rest)).alt acc x = (mean s rest).alt (Re.bOr acc (nodeE s k set (mean s kids) l m x)) x := rfl
theorem nodeE_len (s : ByteArray) (k : Nat) (set : List Bool) (kids : Fo) (l m : Int) (x : List Bool) (hx : x.length = s.size + 1) : (nodeE s.data.toList k set (mean s.data.toList kids) l m x).length = s.size + 1 := by
  have h := Re.mean_length s.data.toList kids
  have hs := Pat.size_toList s
  rw [Re.nodeE_length s.data.toList k set _ l m h.1 h.2.1 h.2.2 x (by omega), hs]
attribute [local go_sem ↓] mk_eq ld_eq st_eq
attribute [local go_sem] run_mkB1 run_ldAt run_stRe
theorem ends_seq (set : List Bool) (kids : Fo) (l m : Int) (hA : AllOK kids) : EndsOK 2 set kids l m := by
  intro w c s b v x hN hB hx hs
  obtain ⟨hl, kv, cs, hc, hsl, hk⟩ := hN
  have hlb : (set.map Value.bool).length = 128 := by simpa using hl
  have e0 : c[0]? = some (.int .i64 2) := by rw [hc]; exact reC_0 _ _ _ _ _
  have e2 : c[129]? = some kv := by rw [hc]; exact reC_kv _ _ _ _ _ hlb
  obtain ⟨ka, kc, rfl⟩ := hsl.form
  have hn := hsl.le
  have hz := zeroRe
  have hE := Lib.hid (En.start c s.size w)
  have HB := Lib.hid hB
  have HS := Lib.hid hsl
  have HF := Lib.hid hk
  have HA := Lib.hid hA
  have HX := Lib.hid hx
  have e : nodeE s.data.toList 2 set (mean s.data.toList kids) l m x = (mean s.data.toList kids).seq x := rfl
  rw [e]
  clear hsl hk hc hB hA hx e
  go_enter Tryz.func19, Tryz.ntmps19
  go_upto_region 2 with fail
  obtain ⟨V, hV⟩ : ∃ V, (w.alloc (.cells c tRe)).alloc (.cells (Array.replicate (s.size + 1) (.bool false)) 4) = V := ⟨_, rfl⟩
  rw [hV] at hE
  rw [hV]
  clear hV
  have b0 := hE.out.cell e0
  have b2 := hE.out.cell e2
  go_wp2
  go_loopg [7, 59] kids.len (fun g s7 s59 wx => ∃ (i : Nat) (B : Fo) (y : List Bool) (bo : Nat), i + g = kids.len ∧ s59 = .int .i64 i ∧ B.len = g ∧ FoC (fun _ => True) w B (cs.drop (i * 132)) ∧ AllOK B ∧ Kp (fun _ => False) V wx ∧ BL wx bo s7 y ∧ y.length = s.size + 1 ∧ (mean s.data.toList B).seq y = (mean s.data.toList kids).seq x)
  case atStart => exact ⟨0, kids, x, b, by omega, rfl, rfl, by simpa using HF.out, HA.out, Kp.refl _ _, HB.out.kept hE.out.kp id, HX.out, rfl⟩
  case round =>
    obtain ⟨i, B, y, bo, hig, rfl, hBl, hFB, hAB, hK, hBL, hy, hmean⟩ := hrel
    cases gk with
    | zero =>
      obtain rfl : i = kids.len := by omega
      have hB0 : B = .nil := by cases B with | nil => rfl | cons => simp [Fo.len] at hBl
      subst hB0
      go_wp2
      go_ret
      exact ⟨_, bo, rfl, by rw [← hmean]; exact hBL, (hE.out.kp.trans hK).below (Nat.le_refl _) (fun _ _ => id)⟩
    | succ g =>
      obtain ⟨k1, set1, kk, l1, m1, rest, rfl, hrl⟩ := Fo.len_pos hBl
      have hi : i < kids.len := by omega
      obtain ⟨g1, cap, cur, c1, hkv, hg1, hsz, hcut, hN1, hR1⟩ := elem_of HS.out hi hFB
      cases hkv
      have hwV := hE.out.kp.trans hK
      have hgr := hwV.heap id hg1
      have hc1 := hN1.size
      have n1 : reOk wr (.pointer (some ⟨g1, i * 132, none⟩)) := ⟨_, _, _, rfl, hgr, hsz⟩
      have n2 : reAt wr (.pointer (some ⟨g1, i * 132, none⟩)) = c1 := by rw [reAt_eq hgr, hcut]
      have n3 : nodeAt (wr.alloc (.cells reZ tRe)) (.pointer (some ⟨wr.heap.size, 0, none⟩)) := ⟨_, reZ, rfl, heap_alloc_new wr _, rfl⟩
      have n4 : oneNode (.agg c1) := ⟨c1, rfl, hc1, hN1.oneC⟩
      have i0 : (i : Int) < (kids.len : Int) := by omega
      have i1 : (0 : Int) ≤ (i : Int) := by omega
      go_upto_region 13 with fail
      clear n1 n2 n3 n4
      simp only [blkOf, World.setRow_alloc_new]
      obtain ⟨p1, p2⟩ := box_at (w := wr) hc1
      obtain ⟨W1, hW1⟩ : ∃ W1, wr.alloc (.cells c1 tRe) = W1 := ⟨_, rfl⟩
      have kr : Kp (fun _ => False) wr W1 := by rw [← hW1]; exact (Kp.refl _ _).alloc _
      rw [hW1] at p1 p2
      rw [hW1]
      clear hW1
      have HC := Lib.hid (hAB.1 W1 c1 s bo u7 y (hN1.kept (hwV.trans kr) (fun _ _ => id)) (hBL.kept kr id) hy hs)
      have HR : Hid (∀ r b2 w2, BL w2 b2 r (nodeE s.data.toList k1 set1 (mean s.data.toList kk) l1 m1 y) → Below W1.heap.size W1 w2 → ∃ (i2 : Nat) (B : Fo) (y : List Bool) (bo : Nat), i2 + g = kids.len ∧ Value.int .i64 ((i : Int) + 1) = .int .i64 i2 ∧ B.len = g ∧ FoC (fun _ => True) w B (cs.drop (i2 * 132)) ∧ AllOK B ∧ Kp (fun _ => False) V w2 ∧ BL w2 bo r y ∧ y.length = s.size + 1 ∧ (mean s.data.toList B).seq y = (mean s.data.toList kids).seq x) :=
        Lib.hid fun r b2 w2 h1 h2 => ⟨i + 1, rest, _, b2, by omega, rfl, hrl, hR1, hAB.2, (hK.trans kr).trans (Kp.of_below h2), h1, nodeE_len _ _ _ _ _ _ _ hy, by rw [← hmean, mean_seq_cons]⟩
      clear hFB hAB hK hBL hy hmean hcut hN1 hR1 hwV hgr hg1 hsz kr
      go_wp2_with fail
      refine HC.out.mono ?_
      rintro e w2 ⟨r, b2, rfl, hBL2, hbw⟩
      have HR2 := Lib.hid (HR.out r b2 w2 hBL2 hbw)
      clear hBL2 hbw HC HR
      go_wp2_with fail
      go_roundg g
      case measure => omega
      case rel => exact HR2.out
end Go.Proofs.YtpfgmiocdgfniaaGreatFmt

namespace Go.Proofs.YtpfgmiocdgfniaaGreatFmt
open Go.RowKit
open Re (Fo nodeE mean setE begE finE falses)
theorem part_falses (n : Nat) : part (falses n) (falses n).length = Array.replicate n (.bool false) := by
  rw [part_full]
  apply Array.ext'
  simp [falses]
theorem En.none {c : Array Value} {n cap : Nat} {w V : World} (h : En c n w V) : BL V (w.heap.size + 1) (.slice (some ⟨w.heap.size + 1, 0, none⟩) (n + 1) cap) (falses (n + 1)) :=
  BL.of_row (t := 4) (by rw [part_falses]; exact h.out) (by simp [falses])
attribute [local go_sem ↓] mk_eq ld_eq st_eq
attribute [local go_sem] run_mkB1 run_ldAt run_stRe
theorem ends_alt (set : List Bool) (kids : Fo) (l m : Int) (hA : AllOK kids) : EndsOK 3 set kids l m := by
  intro w c s b v x hN hB hx hs
  obtain ⟨hl, kv, cs, hc, hsl, hk⟩ := hN
  have hlb : (set.map Value.bool).length = 128 := by simpa using hl
  have e0 : c[0]? = some (.int .i64 3) := by rw [hc]; exact reC_0 _ _ _ _ _
  have e2 : c[129]? = some kv := by rw [hc]; exact reC_kv _ _ _ _ _ hlb
  obtain ⟨ka, kc, rfl⟩ := hsl.form
  have hn := hsl.le
  have hz := zeroRe
  have hE := Lib.hid (En.start c s.size w)
  have HB := Lib.hid hB
  have HS := Lib.hid hsl
  have HF := Lib.hid hk
  have HA := Lib.hid hA
  have HX := Lib.hid hx
  have e : nodeE s.data.toList 3 set (mean s.data.toList kids) l m x = (mean s.data.toList kids).alt (falses (s.size + 1)) x := by
    show (mean s.data.toList kids).alt (falses (s.data.toList.length + 1)) x = _
    rw [Pat.size_toList]
  rw [e]
  clear hsl hk hc hB hA hx e
  go_enter Tryz.func19, Tryz.ntmps19
  go_upto_region 2 with fail
  obtain ⟨V, hV⟩ : ∃ V, (w.alloc (.cells c tRe)).alloc (.cells (Array.replicate (s.size + 1) (.bool false)) 4) = V := ⟨_, rfl⟩
  rw [hV] at hE
  rw [hV]
  clear hV
  have b0 := hE.out.cell e0
  have b2 := hE.out.cell e2
  go_wp2
  go_loopg [7, 73] kids.len (fun g s7 s73 wx => ∃ (i : Nat) (B : Fo) (y : List Bool) (bo : Nat), i + g = kids.len ∧ s73 = .int .i64 i ∧ B.len = g ∧ FoC (fun _ => True) w B (cs.drop (i * 132)) ∧ AllOK B ∧ Kp (fun _ => False) V wx ∧ BL wx bo s7 y ∧ y.length = s.size + 1 ∧ (mean s.data.toList B).alt y x = (mean s.data.toList kids).alt (falses (s.size + 1)) x)
  case atStart => exact ⟨0, kids, falses (s.size + 1), w.heap.size + 1, by omega, rfl, rfl, by simpa using HF.out, HA.out, Kp.refl _ _, hE.out.none, by simp [falses], rfl⟩
  case round =>
    obtain ⟨i, B, y, bo, hig, rfl, hBl, hFB, hAB, hK, hBL, hy, hmean⟩ := hrel
    cases gk with
    | zero =>
      obtain rfl : i = kids.len := by omega
      have hB0 : B = .nil := by cases B with | nil => rfl | cons => simp [Fo.len] at hBl
      subst hB0
      go_wp2
      go_ret
      exact ⟨_, bo, rfl, by rw [← hmean]; exact hBL, (hE.out.kp.trans hK).below (Nat.le_refl _) (fun _ _ => id)⟩
    | succ g =>
      obtain ⟨k1, set1, kk, l1, m1, rest, rfl, hrl⟩ := Fo.len_pos hBl
      have hi : i < kids.len := by omega
      obtain ⟨g1, cap, cur, c1, hkv, hg1, hsz, hcut, hN1, hR1⟩ := elem_of HS.out hi hFB
      cases hkv
      have hwV := hE.out.kp.trans hK
      have hgr := hwV.heap id hg1
      have hc1 := hN1.size
      have n1 : reOk wr (.pointer (some ⟨g1, i * 132, none⟩)) := ⟨_, _, _, rfl, hgr, hsz⟩
      have n2 : reAt wr (.pointer (some ⟨g1, i * 132, none⟩)) = c1 := by rw [reAt_eq hgr, hcut]
      have n3 : nodeAt (wr.alloc (.cells reZ tRe)) (.pointer (some ⟨wr.heap.size, 0, none⟩)) := ⟨_, reZ, rfl, heap_alloc_new wr _, rfl⟩
      have n4 : oneNode (.agg c1) := ⟨c1, rfl, hc1, hN1.oneC⟩
      have i0 : (i : Int) < (kids.len : Int) := by omega
      have i1 : (0 : Int) ≤ (i : Int) := by omega
      go_upto_region 19 with fail
      clear n1 n2 n3 n4
      simp only [blkOf, World.setRow_alloc_new]
      obtain ⟨p1, p2⟩ := box_at (w := wr) hc1
      obtain ⟨W1, hW1⟩ : ∃ W1, wr.alloc (.cells c1 tRe) = W1 := ⟨_, rfl⟩
      have kr : Kp (fun _ => False) wr W1 := by rw [← hW1]; exact (Kp.refl _ _).alloc _
      rw [hW1] at p1 p2
      rw [hW1]
      clear hW1
      have HX1 := Lib.hid ((HB.out.kept hwV id).kept kr id)
      have HC := Lib.hid (hAB.1 W1 c1 s b v x (hN1.kept (hwV.trans kr) (fun _ _ => id)) HX1.out HX.out hs)
      have HY := Lib.hid (hBL.kept kr id)
      have HYL := Lib.hid hy
      have hnl := nodeE_len s k1 set1 kk l1 m1 x HX.out
      have HR : Hid (∀ r b2 w2, BL w2 b2 r (Re.bOr y (nodeE s.data.toList k1 set1 (mean s.data.toList kk) l1 m1 x)) → Kp (fun _ => False) W1 w2 → ∃ (i2 : Nat) (B : Fo) (y : List Bool) (bo : Nat), i2 + g = kids.len ∧ Value.int .i64 ((i : Int) + 1) = .int .i64 i2 ∧ B.len = g ∧ FoC (fun _ => True) w B (cs.drop (i2 * 132)) ∧ AllOK B ∧ Kp (fun _ => False) V w2 ∧ BL w2 bo r y ∧ y.length = s.size + 1 ∧ (mean s.data.toList B).alt y x = (mean s.data.toList kids).alt (falses (s.size + 1)) x) :=
        Lib.hid fun r b2 w2 h1 h2 => ⟨i + 1, rest, _, b2, by omega, rfl, hrl, hR1, hAB.2, (hK.trans kr).trans h2, h1, by rw [Re.bOr_length _ _ (by omega)]; exact hy, by rw [← hmean, mean_alt_cons]⟩
      clear hFB hAB hK hBL hmean hcut hN1 hR1 hwV hgr hg1 hsz kr
      go_wp2_with fail
      refine HC.out.mono ?_
      rintro e w2 ⟨r, b2, rfl, hBL2, hbw⟩
      have HB2 := Lib.hid (both_any w2 bo b2 _ r y _ (HY.out.kept (Kp.of_below (X := fun _ => False) hbw) id) hBL2 (by omega) (by omega))
      have HK2 := Lib.hid (Kp.of_below (X := fun _ => False) hbw)
      clear hBL2 hbw HC
      go_wp2_with fail
      refine HB2.out.mono ?_
      rintro e w3 ⟨r3, rfl, ⟨b3, _, hBL3⟩, hbw3⟩
      have HR2 := Lib.hid (HR.out r3 b3 w3 hBL3 (HK2.out.trans (Kp.of_below hbw3)))
      clear hBL3 hbw3 HB2 HR
      go_wp2_with fail
      go_roundg g
      case measure => omega
      case rel => exact HR2.out
end Go.Proofs.YtpfgmiocdgfniaaGreatFmt

namespace Go.Proofs.YtpfgmiocdgfniaaGreatFmt
open Go.RowKit
open Re (Fo nodeE mean setE begE finE falses tmL iter timesE bOr miss)
theorem same_rows (l l' : List Bool) : Value.bool (decide (l = l')) = if l = l' then .bool true else .bool false := by by_cases h : l = l' <;> simp [h]
attribute [local go_sem ↓] mk_eq ld_eq st_eq
attribute [local go_sem] run_mkB1 run_ldAt run_stRe
theorem ends_times (set : List Bool) (kids : Fo) (l m : Int) (hA : AllOK kids) (hk1 : kids.len = 1) (hl0 : 0 ≤ l) (hl1 : l ≤ 1) : EndsOK 4 set kids l m := by
  intro w c s b v x hN hB hx hs
  obtain ⟨hl, kv, cs, hc, hsl, hk⟩ := hN
  have hlb : (set.map Value.bool).length = 128 := by simpa using hl
  obtain ⟨k1, set1, kk, l1, m1, rest, rfl, hrl⟩ := Fo.len_pos (B := kids) (g := 0) hk1
  have hrest : rest = .nil := by cases rest with | nil => rfl | cons => simp [Fo.len] at hrl
  subst hrest
  obtain ⟨ln, rfl⟩ : ∃ ln : Nat, l = ln := ⟨l.toNat, by omega⟩
  have e0 : c[0]? = some (.int .i64 4) := by rw [hc]; exact reC_0 _ _ _ _ _
  have e2 : c[129]? = some kv := by rw [hc]; exact reC_kv _ _ _ _ _ hlb
  have e3 : c[130]? = some (.int .i64 ln) := by rw [hc]; exact reC_l _ _ _ _ _ hlb
  have e4 : c[131]? = some (.int .i64 m) := by rw [hc]; exact reC_m _ _ _ _ _ hlb
  rw [hk1] at hsl
  obtain ⟨g1, cap, cur, c1, rfl, hg1, hsz, hcut, hN1, _⟩ := elem_of (i := 0) hsl (by omega) (by simpa using hk)
  simp only [Nat.zero_mul, Nat.zero_add] at hsz hcut
  have hE := Lib.hid (En.start c s.size w)
  have hstep : ∀ y, y.length = s.size + 1 → (nodeE s.data.toList k1 set1 (mean s.data.toList kk) l1 m1 y).length = s.size + 1 := fun y hy => nodeE_len s k1 set1 kk l1 m1 y hy
  have hcall : ∀ (V : World) (bo : Nat) (u : Value) (y : List Bool), Kp (fun _ => False) w V → BL V bo u y → y.length = s.size + 1 → Calls Tryz.prog 19 #[.agg c1, .string s, u] V (EndsPost (nodeE s.data.toList k1 set1 (mean s.data.toList kk) l1 m1 y) V) :=
    fun V bo u y kV hb hy => hA.1 V c1 s bo u y (hN1.kept kV (fun _ _ => id)) hb hy hs
  have e : nodeE s.data.toList 4 set (mean s.data.toList (.cons k1 set1 kk l1 m1 .nil)) ln m x = tmL (nodeE s.data.toList k1 set1 (mean s.data.toList kk) l1 m1) m (s.size + 2) ln (iter (nodeE s.data.toList k1 set1 (mean s.data.toList kk) l1 m1) ln x) (iter (nodeE s.data.toList k1 set1 (mean s.data.toList kk) l1 m1) ln x) := by
    show timesE (nodeE s.data.toList k1 set1 (mean s.data.toList kk) l1 m1) ln m s.data.toList.length x = _
    rw [Pat.size_toList]; rfl
  rw [e]
  clear e
  generalize nodeE s.data.toList k1 set1 (mean s.data.toList kk) l1 m1 = step at *
  have HC := Lib.hid hcall
  have HB := Lib.hid hB
  have HS := Lib.hid hstep
  have HX := Lib.hid hx
  have HG := Lib.hid hg1
  have HCT := Lib.hid hcut
  clear hsl hk hc hB hA hx hcall hstep hg1 hcut hN1
  go_enter Tryz.func19, Tryz.ntmps19
  go_upto_region 2 with fail
  obtain ⟨V, hV⟩ : ∃ V, (w.alloc (.cells c tRe)).alloc (.cells (Array.replicate (s.size + 1) (.bool false)) 4) = V := ⟨_, rfl⟩
  rw [hV] at hE
  rw [hV]
  clear hV
  have b0 := hE.out.cell e0
  have b2 := hE.out.cell e2
  have b3 := hE.out.cell e3
  have b4 := hE.out.cell e4
  go_wp2
  go_loopg [13, 14] ln (fun g s13 s14 wx => ∃ (j : Nat) (y : List Bool) (bo : Nat), j + g = ln ∧ s14 = .int .i64 j ∧ BL wx bo s13 y ∧ y.length = s.size + 1 ∧ iter step g y = iter step ln x ∧ Kp (fun _ => False) V wx)
  case atStart => exact ⟨0, x, b, by omega, rfl, HB.out.kept hE.out.kp id, HX.out, rfl, Kp.refl _ _⟩
  case round =>
    obtain ⟨j, y, bo, hjg, rfl, hBL, hy, hit, hK⟩ := hrel
    have b2r := hK.cell id b2
    have b3r := hK.cell id b3
    have b4r := hK.cell id b4
    cases gk with
    | zero =>
      obtain rfl : j = ln := by omega
      have hit' : y = iter step j x := hit
      subst hit'
      clear hit
      have HK := Lib.hid hK
      have HBL := Lib.hid hBL
      clear hK hBL b2r b4r
      go_wp2
      go_loopg [7, 13, 15] (s.size + 2) (fun g s7 s13 s15 wx => ∃ (k : Nat) (now out : List Bool) (bn bo : Nat), s15 = .int .i64 k ∧ BL wx bn s13 now ∧ BL wx bo s7 out ∧ now.length = s.size + 1 ∧ out.length = s.size + 1 ∧ Kp (fun _ => False) V wx ∧ tmL step m g k now out = tmL step m (s.size + 2) j (iter step j x) (iter step j x) ∧ miss out < g ∧ k + g ≤ s.size + 4)
      case atStart => exact ⟨j, _, _, bo, bo, rfl, HBL.out, HBL.out, hy, hy, HK.out, rfl, by have := Re.miss_le (iter step j x); omega, by omega⟩
      case round =>
        clear b0 b2 b3r b3
        obtain ⟨k, now, out, bn, bo2, rfl, hBn, hBo, hnow, hout, hK, htm, hmiss, hkg⟩ := hrel
        have b2r := hK.cell id (hE.out.cell e2)
        have b4r := hK.cell id b4
        cases gk with
        | zero => omega
        | succ g =>
          by_cases hmk : m < 0 ∨ (k : Int) < m
          · rw [tmL, if_pos hmk] at htm
            have hgr := (hE.out.kp.trans hK).heap id HG.out
            have n1 : reOk wr (.pointer (some ⟨g1, 0, none⟩)) := ⟨_, _, _, rfl, hgr, by omega⟩
            have n2 : reAt wr (.pointer (some ⟨g1, 0, none⟩)) = c1 := by rw [reAt_eq hgr, HCT.out]
            have HCC := Lib.hid (HC.out wr bn _ now (hE.out.kp.trans hK) hBn hnow)
            have hsl := HS.out now hnow
            have hbl : (bOr out (step now)).length = out.length := Re.bOr_length _ _ (by omega)
            have hmo := Re.miss_or out (step now) (by omega)
            have HO : Hid (∀ V, Kp (fun _ => False) wr V → BL V bo2 u7 out) := Lib.hid fun V kV => hBo.kept kV id
            have HK := Lib.hid hK
            have HT := Lib.hid htm
            clear hBn hBo hK htm hgr b4 hbl
            have hdd : (decide (m < 0) = true) ∨ (decide (m < 0) = false ∧ decide ((k : Int) < m) = true) := by
              by_cases h0 : m < 0
              · exact .inl (by simpa using h0)
              · exact .inr ⟨by simpa using h0, by rcases hmk with h | h; omega; simpa using h⟩
            clear hmk
            rcases hdd with d1 | ⟨d1, d2⟩
            all_goals
              go_wp2_with fail
              refine HCC.out.mono ?_
              rintro e w2 ⟨r, b2, rfl, hBL2, hbw⟩
              have HK2 := Lib.hid (Kp.of_below (X := fun _ => False) hbw)
              have HB2 := Lib.hid hBL2
              have HC2 := Lib.hid (both_any w2 bo2 b2 _ r out (step now) (HO.out _ HK2.out) hBL2 (by omega) (by omega))
              clear hBL2 hbw HCC
              go_wp2_with fail
              refine HC2.out.mono ?_
              rintro e w3 ⟨r3, rfl, ⟨b3, _, hBL3⟩, hbw3⟩
              have HK3 := Lib.hid (HK2.out.trans (Kp.of_below hbw3))
              have HB3 := Lib.hid hBL3
              have HBn := Lib.hid (HB2.out.kept (Kp.of_below (X := fun _ => False) hbw3) id)
              have HC3 := Lib.hid (same_any w3 b3 bo2 r3 _ (bOr out (step now)) out hBL3 (HO.out _ HK3.out) (by rw [Re.bOr_length _ _ (by omega)]) (by rw [Re.bOr_length _ _ (by omega)]; omega))
              clear hBL3 hbw3 HC2 HK2 HB2
              go_wp2_with fail
              refine HC3.out.mono ?_
              rintro e w4 ⟨rfl, hbw4⟩
              have HK4 := Lib.hid (HK3.out.trans (Kp.of_below hbw4))
              by_cases hse : bOr out (step now) = out
              · have d3 : decide (bOr out (step now) = out) = true := by simpa using hse
                have HP : Hid (EndsPost (tmL step m (s.size + 2) j (iter step j x) (iter step j x)) w (.returned u7) w4) := Lib.hid ⟨_, bo2, rfl, by rw [← HT.out, if_pos hse]; exact HO.out _ HK4.out, ((hE.out.kp.trans HK.out).trans HK4.out).below (Nat.le_refl _) (fun _ _ => id)⟩
                clear hse hmo hbw4 HT HC3
                rw [d3]
                go_wp2
                go_ret
                exact HP.out
              · have d3 : decide (bOr out (step now) = out) = false := by simpa using hse
                have hml := hmo.2 hse
                have HR : Hid (∃ (k2 : Nat) (now2 out2 : List Bool) (bn bo : Nat), Value.int .i64 ((k : Int) + 1) = .int .i64 k2 ∧ BL w4 bn r now2 ∧ BL w4 bo r3 out2 ∧ now2.length = s.size + 1 ∧ out2.length = s.size + 1 ∧ Kp (fun _ => False) V w4 ∧ tmL step m g k2 now2 out2 = tmL step m (s.size + 2) j (iter step j x) (iter step j x) ∧ miss out2 < g ∧ k2 + g ≤ s.size + 4) :=
                  Lib.hid ⟨k + 1, step now, bOr out (step now), b2, b3, rfl, HBn.out.kept (Kp.of_below (X := fun _ => False) hbw4) id, HB3.out.kept (Kp.of_below (X := fun _ => False) hbw4) id, hsl, by rw [Re.bOr_length _ _ (by omega)]; exact hout, HK.out.trans HK4.out, by rw [← HT.out, if_neg hse]; rfl, by omega, by omega⟩
                clear hse hmo hbw4 HT HC3
                rw [d3]
                go_wp2
                go_roundg g
                case measure => omega
                case rel => exact HR.out
          · rw [tmL, if_neg hmk] at htm
            have d1 : decide (m < 0) = false := by simp; omega
            have d2 : decide ((k : Int) < m) = false := by simp; omega
            have HP : Hid (EndsPost (tmL step m (s.size + 2) j (iter step j x) (iter step j x)) w (.returned u7) wr) := Lib.hid ⟨_, bo2, rfl, by rw [← htm]; exact hBo, (hE.out.kp.trans hK).below (Nat.le_refl _) (fun _ _ => id)⟩
            clear hBn hBo hK htm b4
            go_wp2
            go_ret
            exact HP.out
    | succ g =>
      have i0 : (j : Int) < (ln : Int) := by omega
      have i1 : (0 : Int) ≤ (j : Int) := by omega
      have hgr := (hE.out.kp.trans hK).heap id HG.out
      have n1 : reOk wr (.pointer (some ⟨g1, 0, none⟩)) := ⟨_, _, _, rfl, hgr, by omega⟩
      have n2 : reAt wr (.pointer (some ⟨g1, 0, none⟩)) = c1 := by rw [reAt_eq hgr, HCT.out]
      have HCC := Lib.hid (HC.out wr bo _ y (hE.out.kp.trans hK) hBL hy)
      have HR : Hid (∀ r b2 w2, BL w2 b2 r (step y) → Below wr.heap.size wr w2 → ∃ (j2 : Nat) (y : List Bool) (bo : Nat), j2 + g = ln ∧ Value.int .i64 ((j : Int) + 1) = .int .i64 j2 ∧ BL w2 bo r y ∧ y.length = s.size + 1 ∧ iter step g y = iter step ln x ∧ Kp (fun _ => False) V w2) :=
        Lib.hid fun r b2 w2 h1 h2 => ⟨j + 1, _, b2, by omega, rfl, h1, HS.out _ hy, hit, hK.trans (Kp.of_below h2)⟩
      clear hit hBL hK hgr
      go_wp2_with fail
      refine HCC.out.mono ?_
      rintro e w2 ⟨r, b2, rfl, hBL2, hbw⟩
      have HR2 := Lib.hid (HR.out r b2 w2 hBL2 hbw)
      clear hBL2 hbw HCC HR
      go_wp2_with fail
      go_roundg g
      case measure => omega
      case rel => exact HR2.out
end Go.Proofs.YtpfgmiocdgfniaaGreatFmt

namespace Go.Proofs.YtpfgmiocdgfniaaGreatFmt
open Go.RowKit
open Re (Fo G nodeE mean falses trues foundE)
def good : Fo → Prop
  | .nil => True
  | .cons k _ kids l _ rest => (1 ≤ k ∧ k ≤ 6) ∧ (k = 4 → kids.len = 1 ∧ 0 ≤ l ∧ l ≤ 1) ∧ good kids ∧ good rest
theorem node_ok (k : Nat) (set : List Bool) (kids : Fo) (l m : Int) (h1 : 1 ≤ k ∧ k ≤ 6) (h4 : k = 4 → kids.len = 1 ∧ 0 ≤ l ∧ l ≤ 1) (hA : AllOK kids) : EndsOK k set kids l m := by
  obtain ⟨ha, hb⟩ := h1
  match k, ha, hb with
  | 1, _, _ => exact ends_set set kids l m
  | 2, _, _ => exact ends_seq set kids l m hA
  | 3, _, _ => exact ends_alt set kids l m hA
  | 4, _, _ => exact ends_times set kids l m hA (h4 rfl).1 (h4 rfl).2.1 (h4 rfl).2.2
  | 5, _, _ => exact ends_beg set kids l m
  | 6, _, _ => exact ends_fin set kids l m
theorem all_ok : ∀ F : Fo, good F → AllOK F
  | .nil, _ => trivial
  | .cons k set kids l m rest, ⟨h1, h4, hk, hr⟩ => ⟨node_ok k set kids l m h1 h4 (all_ok kids hk), all_ok rest hr⟩
theorem sfx_good (q : Re.Su) (k : Nat) (set : List Bool) (kids rest : Fo) (h1 : 1 ≤ k ∧ k ≤ 6) (h4 : k ≠ 4) (hk : good kids) (hr : good rest) : good (Re.sfx q k set kids rest) := by
  cases q <;> simp [Re.sfx, good, Fo.len, h1, h4, hk, hr]
theorem ms_good : ∀ (g : G) (f d : Bool), good (Re.ms g f d).1 ∧ good (Re.ms g f d).2
  | .done, _, _ => ⟨trivial, trivial⟩
  | .bar r, f, d => ⟨trivial, ⟨by omega, fun h => by omega, (ms_good r f d).1, (ms_good r f d).2⟩⟩
  | .ato a q r, f, d => by
    refine ⟨sfx_good q _ _ .nil _ ?_ ?_ trivial (ms_good r f d).1, (ms_good r f d).2⟩ <;> cases a <;> simp [Re.ndA]
  | .grp i q r, f, d => ⟨sfx_good q 3 _ _ _ (by omega) (by omega) ⟨by omega, fun h => by omega, (ms_good i f d).1, (ms_good i f d).2⟩ (ms_good r f d).1, (ms_good r f d).2⟩
  | .flg i u r, f, d => ⟨⟨by omega, fun h => by omega, trivial, (ms_good r (f || i) true).1⟩, (ms_good r (f || i) true).2⟩
theorem lists_good (g : G) (f d : Bool) : good (Re.lists g f d) := ⟨by omega, fun h => by omega, (ms_good g f d).1, (ms_good g f d).2⟩
theorem root_ok (g : G) (f d : Bool) : EndsOK 3 Re.no128 (Re.lists g f d) 0 0 := node_ok 3 _ _ 0 0 (by omega) (fun h => by omega) (all_ok _ (lists_good g f d))
theorem any_take (R : List Bool) (i : Nat) (hi : i < R.length) (h : (R.take i).any id = false) (h2 : R[i] = false) : (R.take (i + 1)).any id = false := by
  rw [List.take_add_one, List.getElem?_eq_getElem hi, List.any_append, h, h2]; rfl
theorem any_of (R : List Bool) (i : Nat) (hi : i < R.length) (h2 : R[i] = true) : R.any id = true := List.any_eq_true.2 ⟨R[i], List.getElem_mem hi, h2⟩
attribute [local go_sem ↓] mk_eq ld_eq st_eq
attribute [local go_sem] run_mkB1 run_ldAt run_stRe
theorem found_walk (k : Nat) (set : List Bool) (kids : Fo) (l m : Int) (hOK : EndsOK k set kids l m) (w : World) (c : Array Value) (s : ByteArray) (hN : Nd (fun _ => True) w k set kids l m c) (hs : s.size ≤ 274877906944) :
    Calls Tryz.prog 10 #[.agg c, .string s] w fun e w' => e = .returned (.bool (foundE s.data.toList k set kids l m)) ∧ Below w.heap.size w w' := by
  have hE := Lib.hid (En.start c s.size w)
  have hc := hN.size
  have HN := Lib.hid hN
  have HOK := Lib.hid hOK
  have HF : Hid (foundE s.data.toList k set kids l m = (nodeE s.data.toList k set (mean s.data.toList kids) l m (trues (s.size + 1))).any id) := Lib.hid (by
    show (nodeE s.data.toList k set (mean s.data.toList kids) l m (trues (s.data.toList.length + 1))).any id = _
    rw [Pat.size_toList])
  clear hN hOK
  go_enter Tryz.func10, Tryz.ntmps10
  go_upto_region 2 with fail
  obtain ⟨V, hV⟩ : ∃ V, (w.alloc (.cells c tRe)).alloc (.cells (Array.replicate (s.size + 1) (.bool false)) 4) = V := ⟨_, rfl⟩
  rw [hV] at hE
  rw [hV]
  clear hV
  have htl : (trues (s.size + 1)).length = s.size + 1 := by simp [trues]
  go_wp2
  go_loopg [15] (s.size + 1) (fun g s15 wx => ∃ i : Nat, i + g = s.size + 1 ∧ s15 = .int .i64 i ∧ Kp (fun x => x = w.heap.size + 1) V wx ∧ wx.heap[w.heap.size + 1]? = some (.cells (part (trues (s.size + 1)) i) 4 (0, 0)))
  case atStart => exact ⟨0, by omega, rfl, Kp.refl _ _, hE.out.part _ htl⟩
  case round =>
    obtain ⟨i, hig, rfl, hK, hH⟩ := hrel
    cases gk with
    | zero =>
      obtain rfl : i = s.size + 1 := by omega
      have hgb := hK.heap (by show ¬ w.heap.size = w.heap.size + 1; omega) hE.out.box
      have n1 : reOk wr (.pointer (some ⟨w.heap.size, 0, none⟩)) := ⟨_, _, _, rfl, hgb, by omega⟩
      have n2 : reAt wr (.pointer (some ⟨w.heap.size, 0, none⟩)) = c := by
        rw [reAt_eq hgb, List.drop_zero, List.take_of_length_le (by simp; omega)]
      have hk2 : Kp (fun x => x = w.heap.size + 1) w wr := hE.out.kp.false_mono.trans hK
      have hblo : Below w.heap.size w wr := hk2.below (Nat.le_refl _) (fun q hq => by show ¬ q = w.heap.size + 1; omega)
      have hbl : BL wr (w.heap.size + 1) (.slice (some ⟨w.heap.size + 1, 0, none⟩) (s.size + 1) (s.size + 1)) (trues (s.size + 1)) := BL.of_row (t := 4) (by rw [htl]; exact hH) htl.symm
      have HC := Lib.hid (HOK.out wr c s _ _ _ (HN.out.kept (Kp.of_below (X := fun _ => False) hblo) (fun _ _ => id)) hbl htl hs)
      have HBL := Lib.hid hblo
      have hlen := nodeE_len s k set kids l m (trues (s.size + 1)) htl
      generalize nodeE s.data.toList k set (mean s.data.toList kids) l m (trues (s.size + 1)) = R at *
      clear hH hK hgb hk2 hblo hbl htl
      go_wp2_with fail
      refine HC.out.mono ?_
      rintro e w2 ⟨r, b2, rfl, hBL2, hbw⟩
      have HW := Lib.hid (HBL.out.trans (hbw.mono HBL.out.size))
      obtain ⟨⟨cp, rfl⟩, h1, h2⟩ := hBL2
      clear hbw HC HBL
      have hrl : R.length ≤ 274877906945 := by omega
      go_wp2_with fail
      go_loopg [27] R.length (fun g s27 wx => ∃ i : Nat, i + g = R.length ∧ s27 = .int .i64 i ∧ (R.take i).any id = false ∧ wx = w2)
      case atStart => exact ⟨0, by omega, rfl, by simp, rfl⟩
      case round =>
        obtain ⟨i, hig, rfl, hno, rfl⟩ := hrel
        cases gk with
        | zero =>
          obtain rfl : i = R.length := by omega
          have hany : R.any id = false := by rw [List.take_of_length_le (Nat.le_refl _)] at hno; exact hno
          clear hno
          go_wp2
          go_ret
          exact ⟨by rw [HF.out, hany]; rfl, HW.out⟩
        | succ g =>
          have hi : i < R.length := by omega
          have i0 : (i : Int) < (R.length : Int) := by omega
          have i1 : (0 : Int) ≤ (i : Int) := by omega
          have g1 := range_bl h1 i hi
          generalize hz : R[i] = z at g1
          cases z
          · go_wp2
            go_roundg g
            case measure => omega
            case rel => exact ⟨i + 1, by omega, by go_num, any_take R i hi hno hz, rfl⟩
          · clear hno
            go_wp2
            go_ret
            exact ⟨by rw [HF.out, any_of R i hi hz]; rfl, HW.out⟩
    | succ g =>
      have i0 : (i : Int) < (s.size : Int) + 1 := by omega
      have i1 : (0 : Int) ≤ (i : Int) := by omega
      have g2 : wr.cell? ⟨w.heap.size + 1, i, none⟩ = some (.bool false) := by
        rw [Lib.cell_of_heap hH]; exact part_old _ i (by omega)
      have g4 : wr.frozen? ⟨w.heap.size + 1, i, none⟩ = false := Lib.frozen_of_heap hH i
      go_wp2
      go_roundg g
      case measure => omega
      case rel => exact ⟨i + 1, by omega, by go_num, hK.setCell (.inl rfl) _, by rw [heap_setCell_row hH, part_succ _ i (by omega) true (by simp [trues])]⟩
end Go.Proofs.YtpfgmiocdgfniaaGreatFmt
