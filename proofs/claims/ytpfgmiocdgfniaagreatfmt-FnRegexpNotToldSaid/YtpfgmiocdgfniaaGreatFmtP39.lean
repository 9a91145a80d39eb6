/- Joined by pack.py: PrintP, WalkP, PiecesOk, PiecesOkB, Print, PrintB. -/
import Derived.Test.YtpfgmiocdgfniaaGreatFmtP37
import Derived.Test.YtpfgmiocdgfniaaGreatFmtChecked
import Derived.Test.YtpfgmiocdgfniaaGreatFmtP24
import Derived.Lib.SmallJoins
import Derived.Laws.IdiomStrings
set_option linter.unusedVariables false
set_option maxHeartbeats 8000000
set_option maxRecDepth 1000000
namespace Go.Proofs.YtpfgmiocdgfniaaGreatFmt
open Go.RowKit
namespace Pat
def names : List (List UInt8) := [[], [97, 108, 110, 117, 109], [97, 108, 112, 104, 97], [98, 108, 97, 110, 107], [99, 110, 116, 114, 108], [100, 105, 103, 105, 116], [103, 114, 97, 112, 104], [108, 111, 119, 101, 114], [112, 114, 105, 110, 116], [112, 117, 110, 99, 116], [115, 112, 97, 99, 101], [117, 112, 112, 101, 114], [120, 100, 105, 103, 105, 116]]
def byteI (n : Int) : UInt8 := n.toNat.toUInt8
def printItem (i : It) : List UInt8 := if i.cls = 0 then (if i.lo = i.hi then [byteI i.lo] else [byteI i.lo, 45, byteI i.hi]) else [91, 58] ++ names.getD i.cls.toNat [] ++ [58, 93]
def esc1 (c : UInt8) : List UInt8 := if safeI c.toNat then [c] else [92, c]
def printText (l : List UInt8) : List UInt8 := l.flatMap esc1
def bars : List (List UInt8) → List UInt8
  | [] => []
  | [x] => x
  | x :: y :: r => x ++ [124] ++ bars (y :: r)
def barred (r : List (List UInt8)) : List UInt8 := r.flatMap fun x => 124 :: x
theorem bars_cons (x : List UInt8) : ∀ r : List (List UInt8), bars (x :: r) = x ++ barred r
  | [] => by simp [bars, barred]
  | y :: r => by rw [bars, bars_cons y r]; simp [barred]
def printFlat (p : PF) (ls : List (List UInt8)) : List UInt8 :=
  if p.kind = 1 then printText p.text.data.toList
  else if p.kind = 2 then [63]
  else if p.kind = 3 then [42]
  else if p.kind = 4 then [91] ++ (if p.neg then [33] else []) ++ p.items.flatMap printItem ++ [93]
  else if p.kind = 5 then [byteI p.sign, 40] ++ bars ls ++ [41]
  else []
def printP : (n : Nat) → List (PT n) → List UInt8
  | 0, ps => ps.flatMap fun p => printFlat p []
  | n + 1, ps => ps.flatMap fun p => printFlat p.1 (p.2.map (printP n))
end Pat
def Names (w : World) : Prop := ∃ cb co cc, w.cell? ⟨0, 0, none⟩ = some (.slice (some ⟨cb, co, none⟩) 13 cc) ∧ ∀ i, i < 13 → w.cell? ⟨cb, co + i, none⟩ = some (.string ⟨(Pat.names.getD i []).toArray⟩)
theorem Names.kept {w w' : World} (h : Below w.heap.size w w') (hn : Names w) : Names w' := by
  obtain ⟨cb, co, cc, h1, h2⟩ := hn
  exact ⟨cb, co, cc, cell_kept h h1, fun i hi => cell_kept h (h2 i hi)⟩
end Go.Proofs.YtpfgmiocdgfniaaGreatFmt

namespace Go.Proofs.YtpfgmiocdgfniaaGreatFmt
open Go.ChangeShapes Go.WideShapes Go.ChangeAt Go.RowKit
theorem textOk_any (s : ByteArray) (w : World) (hs : s.size ≤ maxLen) :
    Calls Tryz.prog 6 #[.string s] w fun e w' => e = .returned (.bool (Pat.textL s.data.toList)) ∧ w = w' := by
  unfold maxLen at hs
  go_enter Tryz.func6, Tryz.ntmps6
  go_wp2
  go_loop [3] (fun i => ∃ k : Nat, k ≤ s.size ∧ i = .int .i64 k ∧ Hid (Pat.textL s.data.toList = Pat.textL (s.data.toList.drop k))) (fun i => s.size - (intOf i).toNat)
  case atStart => exact ⟨0, Nat.zero_le _, rfl, Lib.hid rfl⟩
  case round =>
    obtain ⟨k, hk, rfl, H⟩ := hrel
    by_cases hlt : k < s.size
    · have HD := Lib.hid (Pat.drop_cons s k hlt)
      by_cases h1 : s[k].toNat < 32
      · go_wp2
        go_ret
        exact ⟨ret_bool (by rw [H.out, HD.out]; simp [Pat.textL]; omega), rfl⟩
      · by_cases h2 : 126 < s[k].toNat
        · go_wp2
          go_ret
          exact ⟨ret_bool (by rw [H.out, HD.out]; simp [Pat.textL]; omega), rfl⟩
        · go_wp2
          go_round
          case rel => exact ⟨k + 1, by omega, by go_num, Lib.hid (by rw [H.out, HD.out]; simp [Pat.textL]; omega)⟩
          case measure => simp [intOf]; omega
    · go_wp2
      go_ret
      exact ⟨ret_bool (by rw [H.out, Pat.drop_end s k (by omega)]; rfl), rfl⟩
theorem safe_any (n : Int) (w : World) : Calls Tryz.prog 21 #[.int .u8 n] w fun e w' => e = .returned (.bool (Pat.safeI n)) ∧ w = w' := by
  go_enter Tryz.func21, Tryz.ntmps21
  go_wp2_with (go_at_call 37; refine (letter_any _ _).mono ?_; rintro e w' ⟨rfl, rfl⟩)
  all_goals go_ret
  all_goals exact ⟨ret_bool (by simp [Pat.safeI, *]), rfl⟩
theorem itemOk_any (i : It) (w : World) : Calls Tryz.prog 20 #[.agg #[.int .i64 i.cls, .int .u8 i.lo, .int .u8 i.hi]] w fun e w' => e = .returned (.bool (Pat.itemI i)) ∧ Below w.heap.size w w' := by
  by_cases h0 : i.cls = 0
  · have hc : (i.cls != 0) = false := by simp [h0]
    have H0 := Lib.hid h0
    clear h0
    go_enter Tryz.func20, Tryz.ntmps20
    go_wp2_with (go_at_call 21; refine (safe_any _ _).mono ?_; rintro e w' ⟨rfl, rfl⟩)
    all_goals go_ret
    all_goals refine ⟨ret_bool ?_, (Below.refl _ _).alloc (Nat.le_refl _) _⟩
    all_goals unfold Pat.itemI; rw [if_pos H0.out]
    all_goals clear H0 hc
    all_goals (try rw [show i.lo = i.hi from by assumption])
    all_goals (generalize Pat.safeI i.hi = sf at *; generalize Pat.safeI i.lo = sl at *; cases sf <;> cases sl <;> rw [Bool.eq_iff_iff] <;> simp at * <;> omega)
  · have hc : (i.cls != 0) = true := by simp [h0]
    go_enter Tryz.func20, Tryz.ntmps20
    go_wp2
    all_goals go_ret
    all_goals exact ⟨ret_bool (by rw [Bool.eq_iff_iff]; simp [Pat.itemI, h0]; omega), (Below.refl _ _).alloc (Nat.le_refl _) _⟩
end Go.Proofs.YtpfgmiocdgfniaaGreatFmt

namespace Go.Proofs.YtpfgmiocdgfniaaGreatFmt
open Go.ChangeShapes Go.WideShapes Go.ChangeAt Go.RowKit
abbrev QL := PF × List (Value × Bool)
def okOne (g nt : Bool) (q : QL) : Bool := if q.1.kind = 5 then g && !q.2.isEmpty && Pat.signB nt q.1.sign && q.2.all (·.2) else Pat.okFlat q.1
def Lists (w : World) (g nt : Bool) (d : Int) (vl : Value) (ls : List (Value × Bool)) : Prop :=
  ∃ b2 o2, SliceAt vl ls.length b2 o2 ∧ ls.length ≤ 70368744177664 ∧ ∀ j (h : j < ls.length), w.cell? ⟨b2, o2 + j, none⟩ = some ls[j].1 ∧
    ∀ w', Below w.heap.size w w' → Calls Tryz.prog 12 #[ls[j].1, .bool g, .bool nt, .int .i64 (d + 1)] w' fun e w'' => e = .returned (.bool ls[j].2) ∧ Below w'.heap.size w' w''
theorem sliceAt_pos {v : Value} {len b o : Nat} (h : SliceAt v len b o) (hp : 0 < len) : ∃ c, v = .slice (some ⟨b, o, none⟩) len c := by
  rcases h with ⟨h0, _⟩ | h
  · omega
  · exact h
theorem sliceAt_shape {v : Value} {len b o : Nat} (h : SliceAt v len b o) : ∃ a c, v = .slice a len c ∧ (0 < len → a = some ⟨b, o, none⟩) := by
  rcases h with ⟨rfl, a, c, rfl⟩ | ⟨c, rfl⟩
  · exact ⟨a, c, rfl, fun h => by omega⟩
  · exact ⟨_, c, rfl, fun _ => rfl⟩
theorem all_snoc {g nt : Bool} {qs : List QL} {k : Nat} {q : PF} {ls : List (Value × Bool)} (hlt : k < qs.length) (hq : qs[k] = (q, ls)) (h : (qs.take k).all (okOne g nt) = true) (h1 : okOne g nt (q, ls) = true) : (qs.take (k + 1)).all (okOne g nt) = true := by
  rw [List.take_succ_eq_append_getElem hlt, List.all_append, h, hq]; simp [h1]
theorem all_fails {g nt : Bool} {qs : List QL} {k : Nat} {q : PF} {ls : List (Value × Bool)} (hlt : k < qs.length) (hq : qs[k] = (q, ls)) (h1 : okOne g nt (q, ls) = false) : qs.all (okOne g nt) = false := by
  rw [List.all_eq_false]
  exact ⟨qs[k], List.getElem_mem _, by rw [hq, h1]; simp⟩
theorem all_end {g nt : Bool} {qs : List QL} {k : Nat} (hlt : ¬ k < qs.length) (h : (qs.take k).all (okOne g nt) = true) : qs.all (okOne g nt) = true := by
  rwa [List.take_of_length_le (by omega)] at h
theorem piecesOk_core (qs : List QL) (g nt : Bool) (d : Int) (b o c : Nat) (w : World) (hd : d ≤ 3) (hd0 : 0 ≤ d) (hl : qs.length ≤ 70368744177664)
    (hq : ∀ i (h : i < qs.length), ∃ vl, FlatAt w b (o + i * 6) qs[i].1 vl ∧ Lists w g nt d vl qs[i].2) :
    Calls Tryz.prog 12 #[.slice (some ⟨b, o, none⟩) qs.length c, .bool g, .bool nt, .int .i64 d] w fun e w' => e = .returned (.bool (qs.all (okOne g nt))) ∧ Below w.heap.size w w' := by
  have HQ := Lib.hid hq
  clear hq
  go_enter Tryz.func12, Tryz.ntmps12
  go_wp2
  go_loopw [19] (fun i wr => ∃ k : Nat, k ≤ qs.length ∧ i = .int .i64 k ∧ Below w.heap.size w wr ∧ Hid ((qs.take k).all (okOne g nt) = true)) (fun i _ => qs.length - (intOf i).toNat)
  case atStart => exact ⟨0, Nat.zero_le _, rfl, Below.refl _ _, Lib.hid rfl⟩
  case round =>
    obtain ⟨k, hk, rfl, hbw, H⟩ := hrel
    by_cases hlt : k < qs.length
    · obtain ⟨vl, hf, hls⟩ := HQ.out k hlt
      have hf' := FlatAt.kept hbw hf
      clear hf
      generalize hqk : qs[k] = qk at *
      obtain ⟨⟨kind, text, neg, items, sign⟩, ls⟩ := qk
      have HK := Lib.hid hqk
      clear hqk
      obtain ⟨vi, c0, c1, c2, c3, c4, c5, ht, hit, hs0, hs1⟩ := hf'
      obtain ⟨bi, oi, hsi, hli, hci⟩ := hit
      obtain ⟨ai, capi, rfl, hai⟩ := sliceAt_shape hsi
      obtain ⟨bl, ol, hsl, hll, hcl⟩ := hls
      obtain ⟨al, capl, rfl, hal⟩ := sliceAt_shape hsl
      have HI := Lib.hid hci
      have HL := Lib.hid hcl
      have HAI := Lib.hid hai
      have HAL := Lib.hid hal
      clear hci hcl hsi hsl hai hal
      dsimp only at c0 c1 c2 c3 c4 c5 ht hs0 hs1 hli
      by_cases k1 : kind = 1
      · subst k1
        cases htx : Pat.textL text.data.toList
        · have hto := fun w => textOk_any text w ht
          rw [htx] at hto
          have HT := Lib.hid hto
          have HF := Lib.hid (all_fails (g := g) (nt := nt) hlt HK.out (by simp [okOne, Pat.okFlat, htx]))
          clear hto htx
          go_wp2_with (go_at_call 6; refine (HT.out _).mono ?_; rintro e w' ⟨rfl, rfl⟩)
          go_ret
          exact ⟨ret_bool (HF.out).symm, hbw.alloc hbw.size _⟩
        · have hto := fun w => textOk_any text w ht
          rw [htx] at hto
          have HT := Lib.hid hto
          have HF := Lib.hid (all_snoc (g := g) (nt := nt) hlt HK.out H.out (by simp [okOne, Pat.okFlat, htx]))
          clear hto htx
          go_wp2_with (go_at_call 6; refine (HT.out _).mono ?_; rintro e w' ⟨rfl, rfl⟩)
          go_roundw
          case rel => exact ⟨k + 1, by omega, by go_num, hbw.alloc hbw.size _, HF⟩
          case measure => simp [intOf]; omega
      · have e1 : (kind == 1) = false := by simp [k1]
        by_cases k2 : kind = 2
        · subst k2
          have HF := Lib.hid (all_snoc (g := g) (nt := nt) hlt HK.out H.out (by simp [okOne, Pat.okFlat]))
          clear k1
          go_wp2_with fail
          go_roundw
          case rel => exact ⟨k + 1, by omega, by go_num, hbw.alloc hbw.size _, HF⟩
          case measure => simp [intOf]; omega
        · have e2 : (kind == 2) = false := by simp [k2]
          by_cases k3 : kind = 3
          · subst k3
            have HF := Lib.hid (all_snoc (g := g) (nt := nt) hlt HK.out H.out (by simp [okOne, Pat.okFlat]))
            clear k1 k2
            go_wp2_with fail
            go_roundw
            case rel => exact ⟨k + 1, by omega, by go_num, hbw.alloc hbw.size _, HF⟩
            case measure => simp [intOf]; omega
          · have e3 : (kind == 3) = false := by simp [k3]
            by_cases k4 : kind = 4
            · subst k4
              clear k1 k2 k3
              by_cases hz : items.length = 0
              · have HF := Lib.hid (all_fails (g := g) (nt := nt) hlt HK.out (by simp [okOne, Pat.okFlat, List.length_eq_zero_iff.1 hz]))
                clear HI HAI HL HAL HK hli hll
                generalize items.length = ni at *
                subst hz
                go_wp2_with fail
                refine wp_loop_rounds 1 ?_
                rw [rounds_succ]
                go_wp2_with fail
                go_ret
                exact ⟨ret_bool (HF.out).symm, hbw.alloc hbw.size _⟩
              · have hzp : 0 < items.length := by omega
                obtain rfl := HAI.out hzp
                obtain ⟨wo, rfl⟩ : ∃ wo : World, wo = wr := ⟨_, rfl⟩
                go_wp2_with fail
                obtain ⟨W1, hW1⟩ : ∃ W1 : World, W1 = wo.alloc (.cells #[.int .i64 4, .string text, .bool neg, .slice (some ⟨bi, oi, none⟩) items.length capi, .int .u8 sign, .slice al ls.length capl] 41) := ⟨_, rfl⟩
                have hx3 : W1.cell? ⟨wo.heap.size, 3, none⟩ = some (.slice (some ⟨bi, oi, none⟩) items.length capi) := by subst hW1; simp
                have hsz1 : W1.heap.size = wo.heap.size + 1 := by subst hW1; simp
                have hb01 : Below wo.heap.size wo W1 := by subst hW1; exact (Below.refl _ _).alloc (Nat.le_refl _) _
                rw [← hW1]
                have HS1 := Lib.hid hsz1
                clear hW1 hsz1 hz c0 c1 c2 c3 c4 c5 HL HAL
                go_loopw [39] (fun i w2 => ∃ j : Nat, j ≤ items.length ∧ i = .int .i64 j ∧ Below W1.heap.size W1 w2 ∧ Hid ((items.take j).all Pat.itemI = true)) (fun i _ => items.length - (intOf i).toNat)
                case atStart => exact ⟨0, Nat.zero_le _, rfl, Below.refl _ _, Lib.hid rfl⟩
                case round =>
                  obtain ⟨j, hj, rfl, hb2, H2⟩ := hrel
                  have hb02 : Below wo.heap.size wo wr := hb01.trans (hb2.mono hb01.size)
                  have hbw2 : Below w.heap.size w wr := hbw.trans (hb02.mono hbw.size)
                  by_cases hjl : j < items.length
                  · obtain ⟨d0, d1, d2, _⟩ := HI.out j hjl
                    have d0 := cell_kept hb02 d0
                    have d1 := cell_kept hb02 d1
                    have d2 := cell_kept hb02 d2
                    have hio := itemOk_any items[j]
                    cases hit : Pat.itemI items[j]
                    · rw [hit] at hio
                      have HIO := Lib.hid hio
                      have HF := Lib.hid (all_fails (g := g) (nt := nt) hlt HK.out (by
                        have : items.all Pat.itemI = false := by rw [List.all_eq_false]; exact ⟨items[j], List.getElem_mem _, by rw [hit]; simp⟩
                        simp [okOne, Pat.okFlat, this]))
                      clear hio hit hx3
                      go_wp2_with (go_at_call 20; refine (HIO.out _).mono ?_; rintro e w' ⟨rfl, hb3⟩)
                      go_ret
                      exact ⟨ret_bool (HF.out).symm, (hbw2.alloc hbw2.size _).trans (hb3.mono (by have := hbw2.size; simp; omega))⟩
                    · rw [hit] at hio
                      have HIO := Lib.hid hio
                      have HF : Hid ((items.take (j + 1)).all Pat.itemI = true) := Lib.hid (by rw [List.take_succ_eq_append_getElem hjl, List.all_append, H2.out]; simp [hit])
                      clear hio hit hx3
                      go_wp2_with (go_at_call 20; refine (HIO.out _).mono ?_; rintro e w' ⟨rfl, hb3⟩)
                      go_roundw
                      case rel => exact ⟨j + 1, by omega, by go_num, (hb2.alloc hb2.size _).trans (hb3.mono (by have := hb2.size; simp; omega)), HF⟩
                      case measure => simp [intOf]; omega
                  · have hx3' : wr.cell? ⟨wo.heap.size, 3, none⟩ = some (.slice (some ⟨bi, oi, none⟩) items.length capi) := cell_kept hb2 hx3
                    have hne : ((items.length : Int) == 0) = false := by rw [beq_eq_false_iff_ne]; omega
                    have HF := Lib.hid (all_snoc (g := g) (nt := nt) hlt HK.out H.out (by
                      have h1 : items.all Pat.itemI = true := by have := H2.out; rwa [List.take_of_length_le (by omega)] at this
                      have h2 : items.isEmpty = false := by cases items with | nil => simp at hzp | cons _ _ => rfl
                      simp [okOne, Pat.okFlat, h1, h2]))
                    clear hx3
                    go_wp2_with fail
                    go_roundw
                    case rel => exact ⟨k + 1, by omega, by go_num, hbw2, HF⟩
                    case measure => simp [intOf]; omega
            · have e4 : (kind == 4) = false := by simp [k4]
              by_cases k5 : kind = 5
              · subst k5
                clear k1 k2 k3 k4 HI HAI hli
                have hfail : (g = false ∨ ls.length = 0 ∨ Pat.signB nt sign = false) → qs.all (okOne g nt) = false := fun h => all_fails hlt HK.out (by
                  rcases h with h | h | h
                  · simp [okOne, h]
                  · simp [okOne, List.length_eq_zero_iff.1 h]
                  · simp [okOne, h])
                have HFL := Lib.hid hfail
                clear hfail
                cases g
                · have HF := Lib.hid (HFL.out (.inl rfl))
                  clear HFL
                  go_wp2_with fail
                  go_ret
                  exact ⟨ret_bool (HF.out).symm, hbw.alloc hbw.size _⟩
                · by_cases hz : ls.length = 0
                  · have HF := Lib.hid (HFL.out (.inr (.inl hz)))
                    clear HFL HL HAL HK hll
                    generalize ls.length = nl at *
                    subst hz
                    go_wp2_with fail
                    go_ret
                    exact ⟨ret_bool (HF.out).symm, hbw.alloc hbw.size _⟩
                  · have hzp : 0 < ls.length := by omega
                    have hne : ((ls.length : Int) == 0) = false := by rw [beq_eq_false_iff_ne]; omega
                    obtain rfl := HAL.out hzp
                    cases hsg : Pat.signB nt sign
                    · have HF := Lib.hid (HFL.out (.inr (.inr hsg)))
                      have hs : (sign != 63) = true ∧ (sign != 42) = true ∧ (sign != 43) = true ∧ (sign != 64) = true ∧ ((sign != 33) = true ∨ (sign = 33 ∧ nt = false)) := by
                        simp [Pat.signB] at hsg ⊢
                        cases nt
                        · simp; omega
                        · simp at hsg ⊢; omega
                      obtain ⟨s1, s2, s3, s4, s5⟩ := hs
                      clear HFL HL HK hsg
                      rcases s5 with s5 | ⟨rfl, rfl⟩
                      · go_wp2_with fail
                        go_ret
                        exact ⟨ret_bool (HF.out).symm, hbw.alloc hbw.size _⟩
                      · clear s1 s2 s3 s4
                        go_wp2_with fail
                        go_ret
                        exact ⟨ret_bool (HF.out).symm, hbw.alloc hbw.size _⟩
                    · have HSG := Lib.hid hsg
                      have hs : sign = 63 ∨ sign = 42 ∨ sign = 43 ∨ sign = 64 ∨ (sign = 33 ∧ nt = true) := by
                        simp only [Pat.signB, Bool.or_eq_true, Bool.and_eq_true, beq_iff_eq] at hsg
                        rcases hsg with (((h | h) | h) | h) | h
                        · exact .inl h
                        · exact .inr (.inl h)
                        · exact .inr (.inr (.inl h))
                        · exact .inr (.inr (.inr (.inl h)))
                        · exact .inr (.inr (.inr (.inr h)))
                      clear HFL hsg
                      obtain ⟨wo, rfl⟩ : ∃ wo : World, wo = wr := ⟨_, rfl⟩
                      have hbo : Below w.heap.size w (wo.alloc (.cells #[.int .i64 5, .string text, .bool neg, .slice ai items.length capi, .int .u8 sign, .slice (some ⟨bl, ol, none⟩) ls.length capl] 41)) := hbw.alloc hbw.size _
                      have HFF : Hid (ls.all (·.2) = false → qs.all (okOne true nt) = false) := Lib.hid (fun h => all_fails hlt HK.out (by simp [okOne, h]))
                      have HFS : Hid (ls.all (·.2) = true → (qs.take (k + 1)).all (okOne true nt) = true) := Lib.hid (fun h => all_snoc hlt HK.out H.out (by
                        have h2 : ls.isEmpty = false := by cases ls with | nil => simp at hzp | cons _ _ => rfl
                        simp only [okOne, h, h2, HSG.out]; simp))
                      rcases hs with rfl | rfl | rfl | rfl | ⟨rfl, rfl⟩
                      all_goals
                        go_wp2_with fail
                        go_loopw [93] (fun i w2 => ∃ j : Nat, j ≤ ls.length ∧ i = .int .i64 j ∧ Below w.heap.size w w2 ∧ Hid ((ls.take j).all (·.2) = true)) (fun i _ => ls.length - (intOf i).toNat)
                        case atStart => exact ⟨0, Nat.zero_le _, rfl, hbo, Lib.hid rfl⟩
                        case round =>
                          obtain ⟨j, hj, rfl, hb2, H2⟩ := hrel
                          by_cases hjl : j < ls.length
                          · obtain ⟨d0, hcall⟩ := HL.out j hjl
                            have d0 := cell_kept hb2 d0
                            have HC := Lib.hid (hcall wr hb2)
                            clear hcall
                            generalize hvj : ls[j].1 = vj at d0 HC
                            clear hvj
                            cases hr : ls[j].2
                            · rw [hr] at HC
                              have HF := Lib.hid (HFF.out (by rw [List.all_eq_false]; exact ⟨ls[j], List.getElem_mem _, by rw [hr]; simp⟩))
                              clear hr
                              go_wp2_with (go_at_call 12; refine (HC.out).mono ?_; rintro e w' ⟨rfl, hb3⟩)
                              go_ret
                              exact ⟨ret_bool (HF.out).symm, hb2.trans (hb3.mono hb2.size)⟩
                            · rw [hr] at HC
                              have HF : Hid ((ls.take (j + 1)).all (·.2) = true) := Lib.hid (by rw [List.take_succ_eq_append_getElem hjl, List.all_append, H2.out]; simp [hr])
                              clear hr
                              go_wp2_with (go_at_call 12; refine (HC.out).mono ?_; rintro e w' ⟨rfl, hb3⟩)
                              go_roundw
                              case rel => exact ⟨j + 1, by omega, by go_num, hb2.trans (hb3.mono hb2.size), HF⟩
                              case measure => simp [intOf]; omega
                          · have HF := Lib.hid (HFS.out (by have := H2.out; rwa [List.take_of_length_le (by omega)] at this))
                            go_wp2_with fail
                            go_roundw
                            case rel => exact ⟨k + 1, by omega, by go_num, hb2, HF⟩
                            case measure => simp [intOf]; omega
              · have e5 : (kind == 5) = false := by simp [k5]
                have HF := Lib.hid (all_fails (g := g) (nt := nt) hlt HK.out (by simp [okOne, Pat.okFlat, k1, k2, k3, k4, k5]))
                clear k1 k2 k3 k4 k5
                go_wp2_with fail
                go_ret
                exact ⟨ret_bool (HF.out).symm, hbw.alloc hbw.size _⟩
    · have HF := Lib.hid (all_end hlt H.out)
      go_wp2_with fail
      go_ret
      exact ⟨ret_bool (HF.out).symm, hbw⟩
end Go.Proofs.YtpfgmiocdgfniaaGreatFmt

namespace Go.Proofs.YtpfgmiocdgfniaaGreatFmt
open Go.ChangeShapes Go.WideShapes Go.ChangeAt Go.RowKit
theorem choose_list {α : Type} {n : Nat} {P : Nat → α → Prop} (h : ∀ i, i < n → ∃ x, P i x) : ∃ l : List α, l.length = n ∧ ∀ i (hi : i < l.length), P i l[i] := by
  induction n with
  | zero => exact ⟨[], rfl, fun i hi => by simp at hi⟩
  | succ n ih =>
    obtain ⟨l, hl, hp⟩ := ih (fun i hi => h i (by omega))
    obtain ⟨x, hx⟩ := h n (by omega)
    refine ⟨l ++ [x], by simp [hl], fun i hi => ?_⟩
    by_cases hin : i < l.length
    · rw [List.getElem_append_left hin]; exact hp i hin
    · have : i = n := by simp at hi; omega
      subst this
      rw [List.getElem_append_right (by omega)]
      simpa [hl] using hx
theorem piecesOk_deep (a : Option Addr) (len c : Nat) (g nt : Bool) (d : Int) (w : World) (hd : 3 < d) :
    Calls Tryz.prog 12 #[.slice a len c, .bool g, .bool nt, .int .i64 d] w fun e w' => e = .returned (.bool false) ∧ Below w.heap.size w w' := by
  go_enter Tryz.func12, Tryz.ntmps12
  go_wp2_with fail
  go_ret
  exact ⟨rfl, Below.refl _ _⟩
theorem piecesOk_nil (a : Option Addr) (c : Nat) (g nt : Bool) (d : Int) (w : World) (hd : d ≤ 3) :
    Calls Tryz.prog 12 #[.slice a 0 c, .bool g, .bool nt, .int .i64 d] w fun e w' => e = .returned (.bool true) ∧ Below w.heap.size w w' := by
  go_enter Tryz.func12, Tryz.ntmps12
  go_wp2_with fail
  refine wp_loop_rounds 1 ?_
  rw [rounds_succ]
  go_wp2_with fail
  go_ret
  exact ⟨rfl, Below.refl _ _⟩
theorem okOne_zero (g nt : Bool) (p : PF) : okOne g nt (p, []) = Pat.okFlat p := by
  by_cases h : p.kind = 5
  · simp [okOne, Pat.okFlat, h]
  · simp [okOne, h]
theorem piecesOk_flat (g nt : Bool) (d : Int) (v : Value) (ps : List PF) (w : World) (hp : ∃ b o, SliceAt v ps.length b o ∧ ps.length ≤ 70368744177664 ∧ ∀ i (h : i < ps.length), ∃ a c, FlatAt w b (o + i * 6) ps[i] (.slice a 0 c)) (h0 : 0 ≤ d) :
    Calls Tryz.prog 12 #[v, .bool g, .bool nt, .int .i64 d] w fun e w' => e = .returned (.bool (!decide (3 < d) && ps.all fun p => Pat.okFlat p)) ∧ Below w.heap.size w w' := by
  obtain ⟨b, o, hs, hl, hc⟩ := hp
  by_cases hd : 3 < d
  · obtain ⟨a, c, rfl, _⟩ := sliceAt_shape hs
    have := piecesOk_deep a ps.length c g nt d w hd
    simpa [hd] using this
  · rcases hs with ⟨hz, a, c, rfl⟩ | ⟨c, rfl⟩
    · have e : ps = [] := List.length_eq_zero_iff.1 hz
      subst e
      have := piecesOk_nil a c g nt d w (by omega)
      simpa [hd] using this
    · have := piecesOk_core (ps.map fun p => (p, [])) g nt d b o c w (by omega) h0 (by simpa using hl) (fun i hi => by
        have hi' : i < ps.length := by simpa using hi
        obtain ⟨a, c', hf⟩ := hc i hi'
        refine ⟨.slice a 0 c', by simpa using hf, 0, 0, .inl ⟨by simp, a, c', rfl⟩, by simp, fun j hj => by simp at hj⟩)
      rw [List.length_map, List.all_map] at this
      have e : ps.all (okOne g nt ∘ fun p => (p, [])) = (!decide (3 < d) && ps.all fun p => Pat.okFlat p) := by
        simp only [hd, decide_false, Bool.not_false, Bool.true_and]
        congr 1
        funext p
        exact okOne_zero g nt p
      rwa [e] at this
theorem piecesOk_any (g nt : Bool) : ∀ (n : Nat) (d : Int) (v : Value) (ps : List (PT n)) (w : World), PiecesAt n w v ps → 0 ≤ d →
    Calls Tryz.prog 12 #[v, .bool g, .bool nt, .int .i64 d] w fun e w' => e = .returned (.bool (Pat.okP n g nt d ps)) ∧ Below w.heap.size w w'
  | 0, d, v, ps, w, hp, h0 => piecesOk_flat g nt d v ps w hp h0
  | n + 1, d, v, ps, w, ⟨b, o, hs, hl, hc⟩, h0 => by
    by_cases hd : 3 < d
    · obtain ⟨a, c, rfl, _⟩ := sliceAt_shape hs
      have := piecesOk_deep a ps.length c g nt d w hd
      simpa [Pat.okP, hd] using this
    · rcases hs with ⟨hz, a, c, rfl⟩ | ⟨c, rfl⟩
      · have e : ps = [] := List.length_eq_zero_iff.1 hz
        subst e
        have := piecesOk_nil a c g nt d w (by omega)
        simpa [Pat.okP, hd] using this
      · obtain ⟨L, hL, hLp⟩ := choose_list (α := List (Value × Bool)) (n := ps.length) (P := fun i l => ∃ h : i < ps.length, (∃ vl, FlatAt w b (o + i * 6) ps[i].1 vl ∧ Lists w g nt d vl l) ∧ l.map (·.2) = ps[i].2.map (Pat.okP n g nt (d + 1))) (fun i hi => by
          obtain ⟨vl, hf, b2, o2, hs2, hl2, hc2⟩ := hc i hi
          obtain ⟨l, hll, hlp⟩ := choose_list (α := Value) (n := ps[i].2.length) (P := fun j x => ∃ h : j < ps[i].2.length, w.cell? ⟨b2, o2 + j, none⟩ = some x ∧ PiecesAt n w x ps[i].2[j]) (fun j hj => by
            obtain ⟨vj, h1, h2⟩ := hc2 j hj
            exact ⟨vj, hj, h1, h2⟩)
          refine ⟨l.zip (ps[i].2.map (Pat.okP n g nt (d + 1))), hi, ⟨vl, hf, b2, o2, by simpa [hll] using hs2, by simpa [hll] using hl2, fun j hj => ?_⟩, by rw [List.map_snd_zip]; simp [hll]⟩
          have hj1 : j < l.length := by simp at hj; omega
          obtain ⟨hj2, h1, h2⟩ := hlp j hj1
          refine ⟨by simpa using h1, fun w' hw' => ?_⟩
          have := piecesOk_any g nt n (d + 1) l[j] ps[i].2[j] w' (PiecesAt.kept hw' n h2) (by omega)
          simpa using this)
        have := piecesOk_core ((ps.map (·.1)).zip L) g nt d b o c w (by omega) h0 (by simpa [hL] using hl) (fun i hi => by
          have hi1 : i < L.length := by simp at hi; omega
          obtain ⟨hi2, ⟨vl, hf, hls⟩, _⟩ := hLp i hi1
          exact ⟨vl, by simpa using hf, by simpa using hls⟩)
        rw [show ((ps.map (·.1)).zip L).length = ps.length from by simp [hL]] at this
        have e : ((ps.map (·.1)).zip L).all (okOne g nt) = Pat.okP (n + 1) g nt d ps := by
          simp only [Pat.okP, hd, decide_false, Bool.not_false, Bool.true_and]
          rw [Bool.eq_iff_iff, List.all_eq_true, List.all_eq_true]
          have key : ∀ i (h1 : i < ps.length) (h2 : i < L.length), okOne g nt (ps[i].1, L[i]) = (if ps[i].1.kind = 5 then g && !ps[i].2.isEmpty && Pat.signB nt ps[i].1.sign && ps[i].2.all (Pat.okP n g nt (d + 1)) else Pat.okFlat ps[i].1) := by
            intro i h1 h2
            obtain ⟨_, _, hm⟩ := hLp i h2
            have e1 : L[i].all (·.2) = ps[i].2.all (Pat.okP n g nt (d + 1)) := by
              have := congrArg (fun l => l.all id) hm
              simpa [List.all_map, Function.comp_def] using this
            have e2 : L[i].isEmpty = ps[i].2.isEmpty := by
              have := congrArg List.length hm
              simp only [List.length_map] at this
              cases h1 : L[i] <;> cases h2 : ps[i].2 <;> simp_all
            simp only [okOne, e1, e2]
          constructor
          · intro h p hp
            obtain ⟨i, hi, rfl⟩ := List.getElem_of_mem hp
            rw [← key i hi (by omega)]
            refine h _ ?_
            have : ((ps.map (·.1)).zip L)[i]'(by simp [hL]; omega) = (ps[i].1, L[i]'(by omega)) := by simp
            rw [← this]
            exact List.getElem_mem _
          · intro h q hq
            obtain ⟨i, hi, rfl⟩ := List.getElem_of_mem hq
            have hi1 : i < ps.length := by simp at hi; omega
            have hi2 : i < L.length := by omega
            have : ((ps.map (·.1)).zip L)[i]'hi = (ps[i].1, L[i]) := by simp
            rw [this, key i hi1 hi2]
            exact h _ (List.getElem_mem _)
        rwa [e] at this
end Go.Proofs.YtpfgmiocdgfniaaGreatFmt

namespace Go.Proofs.YtpfgmiocdgfniaaGreatFmt
open Go.ChangeShapes Go.WideShapes Go.ChangeAt Go.RowKit
abbrev QP := PF × List (Value × List UInt8)
def printQ (q : QP) : List UInt8 := Pat.printFlat q.1 (q.2.map (·.2))
def clsOk (p : PF) : Prop := p.kind = 4 → p.items ≠ [] ∧ ∀ i ∈ p.items, 0 ≤ i.cls ∧ i.cls ≤ 12
def ListsP (w : World) (vl : Value) (ls : List (Value × List UInt8)) : Prop :=
  ∃ b2 o2, SliceAt vl ls.length b2 o2 ∧ ls.length ≤ 70368744177664 ∧ ∀ j (h : j < ls.length), w.cell? ⟨b2, o2 + j, none⟩ = some ls[j].1 ∧
    ∀ w', Below w.heap.size w w' → Calls Tryz.prog 13 #[ls[j].1] w' fun e w'' => e = .returned (.string ⟨ls[j].2.toArray⟩) ∧ Below w'.heap.size w' w''
theorem le_total {o : ByteArray} {r t : List UInt8} (h : o.data.toList ++ r = t) : o.size ≤ t.length := by
  rw [← h, List.length_append, Pat.size_toList]; omega
def tailB (l : List (List UInt8)) (j : Nat) : List UInt8 := if j = 0 then Pat.bars l else Pat.barred (l.drop j)
theorem tailB_zero (l : List (List UInt8)) (j : Nat) (h : j = 0) (hl : j < l.length) : tailB l j = l[j] ++ tailB l (j + 1) := by
  subst h
  cases l with
  | nil => simp at hl
  | cons x r => simp [tailB, Pat.bars_cons]
theorem tailB_succ (l : List (List UInt8)) (j : Nat) (h : ¬ j = 0) (hl : j < l.length) : tailB l j = 124 :: l[j] ++ tailB l (j + 1) := by
  simp only [tailB, if_neg h, if_neg (Nat.succ_ne_zero j)]
  rw [List.drop_eq_getElem_cons hl, Pat.barred, List.flatMap_cons, Pat.barred]
theorem tailB_end (l : List (List UInt8)) (j : Nat) (hl : l.length ≤ j) : tailB l j = [] := by
  by_cases h : j = 0
  · have : l = [] := List.length_eq_zero_iff.1 (by omega)
    simp [tailB, h, this, Pat.bars]
  · simp only [tailB, if_neg h, List.drop_eq_nil_iff.2 hl, Pat.barred, List.flatMap_nil]
theorem byteI_toNat {x : Int} (h0 : 0 ≤ x) (h1 : x ≤ 255) : ((Pat.byteI x).toNat : Int) = x := by simp [Pat.byteI]; omega
theorem conv_one (w : World) (C : Obj) (x : Int) (h0 : 0 ≤ x) (h1 : x ≤ 255) : (convert 45 9 (.slice (some ⟨w.heap.size + 1, 0, none⟩) 1 1)).run Tryz.prog ((w.alloc C).alloc (.cells #[.int .u8 x] 5)) = .ok (.string ⟨#[Pat.byteI x]⟩) ((w.alloc C).alloc (.cells #[.int .u8 x] 5)) := by
  have hx := byteI_toNat h0 h1
  refine run_convert_bytes_back _ _ _ 5 _ 1 [Pat.byteI x] Tryz.underlying45 Tryz.underlying5 Tryz.underlying9 ?_
  intro j hj
  match j, hj with
  | 0, _ => simp [Addr.add, hx]
theorem conv_three (w : World) (C : Obj) (x y : Int) (h0 : 0 ≤ x) (h1 : x ≤ 255) (h2 : 0 ≤ y) (h3 : y ≤ 255) : (convert 45 9 (.slice (some ⟨w.heap.size + 1, 0, none⟩) 3 3)).run Tryz.prog ((w.alloc C).alloc (.cells #[.int .u8 x, .int .u8 45, .int .u8 y] 5)) = .ok (.string ⟨#[Pat.byteI x, 45, Pat.byteI y]⟩) ((w.alloc C).alloc (.cells #[.int .u8 x, .int .u8 45, .int .u8 y] 5)) := by
  have hx := byteI_toNat h0 h1
  have hy := byteI_toNat h2 h3
  refine run_convert_bytes_back _ _ _ 5 _ 3 [Pat.byteI x, 45, Pat.byteI y] Tryz.underlying45 Tryz.underlying5 Tryz.underlying9 ?_
  intro j hj
  match j, hj with
  | 0, _ => simp [Addr.add, hx]
  | 1, _ => simp [Addr.add]
  | 2, _ => simp [Addr.add, hy]
theorem names_le (i : Nat) : (Pat.names.getD i []).length ≤ 6 := by
  by_cases h : i < 13
  · match i, h with
    | 0, _ | 1, _ | 2, _ | 3, _ | 4, _ | 5, _ | 6, _ | 7, _ | 8, _ | 9, _ | 10, _ | 11, _ | 12, _ => decide
  · have h1 : Pat.names.length = 13 := rfl
    simp [List.getD, List.getElem?_eq_none (by omega : Pat.names.length ≤ i)]
theorem print_core (qs : List QP) (b o c : Nat) (w : World) (hl : qs.length ≤ 70368744177664) (ht : (qs.flatMap printQ).length ≤ 4611686018427387904) (hn : Names w)
    (hq : ∀ i (h : i < qs.length), ∃ vl, FlatAt w b (o + i * 6) qs[i].1 vl ∧ clsOk qs[i].1 ∧ (qs[i].1.kind = 5 → ListsP w vl qs[i].2) ∧ ∃ a n c, vl = .slice a n c) :
    Calls Tryz.prog 13 #[.slice (some ⟨b, o, none⟩) qs.length c] w fun e w' => e = .returned (.string ⟨(qs.flatMap printQ).toArray⟩) ∧ Below w.heap.size w w' := by
  have HQ := Lib.hid hq
  have HN := Lib.hid hn
  generalize hT : (qs.flatMap printQ) = T at *
  have HT := Lib.hid hT
  clear hq hn hT
  go_enter Tryz.func13, Tryz.ntmps13
  go_wp2
  go_loopw [3, 13] (fun out i wr => ∃ (k : Nat) (s : ByteArray), k ≤ qs.length ∧ out = .string s ∧ i = .int .i64 k ∧ Below w.heap.size w wr ∧ s.size ≤ T.length ∧ Hid (s.data.toList ++ (qs.drop k).flatMap printQ = T)) (fun _ i _ => qs.length - (intOf i).toNat)
  case atStart => exact ⟨0, ⟨#[]⟩, Nat.zero_le _, rfl, rfl, Below.refl _ _, Nat.zero_le _, Lib.hid (by simpa using HT.out)⟩
  case round =>
    obtain ⟨k, s, hk, rfl, rfl, hbw, hsz, H⟩ := hrel
    by_cases hlt : k < qs.length
    · obtain ⟨vl, hf, hcls, hls, al, nl, capl, rfl⟩ := HQ.out k hlt
      have hf' := FlatAt.kept hbw hf
      have hstep : s.data.toList ++ (printQ qs[k] ++ (qs.drop (k + 1)).flatMap printQ) = T := by
        have := H.out
        rwa [List.drop_eq_getElem_cons hlt, List.flatMap_cons] at this
      clear hf
      generalize hqk : qs[k] = qk at *
      clear hqk
      obtain ⟨⟨kind, text, neg, items, sign⟩, ls⟩ := qk
      generalize hR : (qs.drop (k + 1)).flatMap printQ = R at hstep
      have HR := Lib.hid hR
      have HS := Lib.hid hstep
      have HC := Lib.hid hcls
      have HLS := Lib.hid hls
      clear hR hstep hcls hls H
      obtain ⟨vi, c0, c1, c2, c3, c4, c5, htx, hit, hs0, hs1⟩ := hf'
      obtain ⟨bi, oi, hsi, hli, hci⟩ := hit
      obtain ⟨ai, capi, rfl, hai⟩ := sliceAt_shape hsi
      have HI := Lib.hid hci
      have HAI := Lib.hid hai
      clear hci hsi hai
      dsimp only at c0 c1 c2 c3 c4 c5 htx hs0 hs1 hli
      by_cases k1 : kind = 1
      · subst k1
        have HS1 : Hid (s.data.toList ++ (Pat.printText (text.data.toList.drop 0) ++ R) = T) := Lib.hid (by simpa [printQ, Pat.printFlat] using HS.out)
        obtain ⟨wo, rfl⟩ : ∃ wo : World, wo = wr := ⟨_, rfl⟩
        unfold maxLen at htx
        go_wp2_with fail
        go_loop [3, 6] (fun out i => ∃ (j : Nat) (s2 : ByteArray), j ≤ text.size ∧ out = .string s2 ∧ i = .int .i64 j ∧ s2.size ≤ T.length ∧ Hid (s2.data.toList ++ (Pat.printText (text.data.toList.drop j) ++ R) = T)) (fun _ i => text.size - (intOf i).toNat)
        case atStart => exact ⟨0, s, Nat.zero_le _, rfl, rfl, hsz, HS1⟩
        case round =>
          obtain ⟨j, s2, hj, rfl, rfl, hs2, H2⟩ := hrel
          by_cases hjl : j < text.size
          · have hD := Pat.drop_cons text j hjl
            have HX := Lib.hid (Pat.extract_one text j hjl)
            have hz := Pat.extract_one_size text j hjl
            have hz1 : s2.size + (text.extract j (j + 1)).size ≤ 9223372036854775807 := by omega
            have hz2 : s2.size + 1 + (text.extract j (j + 1)).size ≤ 9223372036854775807 := by omega
            have hsafe := safe_any (text[j].toNat : Int)
            cases hsf : Pat.safeI (text[j].toNat : Int)
            · rw [hsf] at hsafe
              have HSF := Lib.hid hsafe
              have H3 : Hid ((s2 ++ ByteArray.mk #[92] ++ text.extract j (j + 1)).data.toList ++ (Pat.printText (text.data.toList.drop (j + 1)) ++ R) = T) := Lib.hid (by
                have := H2.out
                rw [hD] at this
                rw [Pat.data_app, Pat.data_app, HX.out, ← this]
                simp [Pat.printText, Pat.esc1, hsf])
              have hle := le_total H3.out
              clear hsafe hsf hD hz
              go_wp2_with (go_at_call 21; refine (HSF.out _).mono ?_; rintro e w' ⟨rfl, rfl⟩)
              go_round
              case rel => exact ⟨j + 1, _, by omega, rfl, by go_num, hle, H3⟩
              case measure => simp [intOf]; omega
            · rw [hsf] at hsafe
              have HSF := Lib.hid hsafe
              have H3 : Hid ((s2 ++ text.extract j (j + 1)).data.toList ++ (Pat.printText (text.data.toList.drop (j + 1)) ++ R) = T) := Lib.hid (by
                have := H2.out
                rw [hD] at this
                rw [Pat.data_app, HX.out, ← this]
                simp [Pat.printText, Pat.esc1, hsf])
              have hle := le_total H3.out
              clear hsafe hsf hD hz
              go_wp2_with (go_at_call 21; refine (HSF.out _).mono ?_; rintro e w' ⟨rfl, rfl⟩)
              go_round
              case rel => exact ⟨j + 1, _, by omega, rfl, by go_num, hle, H3⟩
              case measure => simp [intOf]; omega
          · have H3 : Hid (s2.data.toList ++ (qs.drop (k + 1)).flatMap printQ = T) := Lib.hid (by
              have := H2.out
              rw [Pat.drop_end text j (by omega)] at this
              rw [HR.out]
              simpa [Pat.printText] using this)
            go_wp2_with fail
            go_roundw
            case rel => exact ⟨k + 1, s2, by omega, rfl, by go_num, hbw.alloc hbw.size _, hs2, H3⟩
            case measure => simp [intOf]; omega
      · have e1 : (kind == 1) = false := by simp [k1]
        by_cases k2 : kind = 2
        · subst k2
          clear k1
          have H3 : Hid ((s ++ ByteArray.mk #[63]).data.toList ++ (qs.drop (k + 1)).flatMap printQ = T) := Lib.hid (by
            rw [HR.out, ← HS.out, Pat.data_app]; simp [printQ, Pat.printFlat])
          have hle := le_total H3.out
          go_wp2_with fail
          go_roundw
          case rel => exact ⟨k + 1, _, by omega, rfl, by go_num, hbw.alloc hbw.size _, hle, H3⟩
          case measure => simp [intOf]; omega
        · have e2 : (kind == 2) = false := by simp [k2]
          by_cases k3 : kind = 3
          · subst k3
            clear k1 k2
            have H3 : Hid ((s ++ ByteArray.mk #[42]).data.toList ++ (qs.drop (k + 1)).flatMap printQ = T) := Lib.hid (by
              rw [HR.out, ← HS.out, Pat.data_app]; simp [printQ, Pat.printFlat])
            have hle := le_total H3.out
            go_wp2_with fail
            go_roundw
            case rel => exact ⟨k + 1, _, by omega, rfl, by go_num, hbw.alloc hbw.size _, hle, H3⟩
            case measure => simp [intOf]; omega
          · have e3 : (kind == 3) = false := by simp [k3]
            by_cases k4 : kind = 4
            · subst k4
              clear k1 k2 k3
              obtain ⟨hne, hcl⟩ := HC.out rfl
              have hzp : 0 < items.length := List.length_pos_iff.2 hne
              have HCL := Lib.hid hcl
              obtain rfl := HAI.out hzp
              obtain ⟨wo, rfl⟩ : ∃ wo : World, wo = wr := ⟨_, rfl⟩
              have HNo := Lib.hid (Names.kept hbw HN.out)
              clear hne hcl HC HLS
              obtain ⟨W1, hW1⟩ : ∃ W1 : World, W1 = wo.alloc (.cells #[.int .i64 4, .string text, .bool neg, .slice (some ⟨bi, oi, none⟩) items.length capi, .int .u8 sign, .slice al nl capl] 41) := ⟨_, rfl⟩
              have hb01 : Below wo.heap.size wo W1 := by subst hW1; exact (Below.refl _ _).alloc (Nat.le_refl _) _
              have HW1 := Lib.hid hW1
              clear hW1
              have hstart : ∃ s1 : ByteArray, s1 = (if neg then s ++ ByteArray.mk #[91] ++ ByteArray.mk #[33] else s ++ ByteArray.mk #[91]) := ⟨_, rfl⟩
              obtain ⟨s1, hs1e⟩ := hstart
              have HSS : Hid (s1.data.toList ++ ((items.drop 0).flatMap Pat.printItem ++ (93 :: R)) = T) := Lib.hid (by
                rw [← HS.out, hs1e]
                cases neg <;> simp [printQ, Pat.printFlat])
              have hle1 := le_total HSS.out
              cases neg
              all_goals
                simp only [Bool.false_eq_true, if_true, if_false] at hs1e
                have HE := Lib.hid hs1e
                clear hs1e
                go_wp2_with fail
                rw [← HW1.out, ← HE.out]
                go_loopw [3, 63] (fun out i w2 => ∃ (j : Nat) (s2 : ByteArray), j ≤ items.length ∧ out = .string s2 ∧ i = .int .i64 j ∧ Below W1.heap.size W1 w2 ∧ s2.size ≤ T.length ∧ Hid (s2.data.toList ++ ((items.drop j).flatMap Pat.printItem ++ (93 :: R)) = T)) (fun _ i _ => items.length - (intOf i).toNat)
                case atStart => exact ⟨0, s1, Nat.zero_le _, rfl, rfl, Below.refl _ _, hle1, HSS⟩
                case round =>
                  obtain ⟨j, s2, hj, rfl, rfl, hb2, hs2, H2⟩ := hrel
                  have hb02 : Below wo.heap.size wo wr := hb01.trans (hb2.mono hb01.size)
                  have hbw2 : Below w.heap.size w wr := hbw.trans (hb02.mono hbw.size)
                  by_cases hjl : j < items.length
                  · obtain ⟨d0, d1, d2, hr1, hr2, hr3, hr4⟩ := HI.out j hjl
                    have d0 := cell_kept hb02 d0
                    have d1 := cell_kept hb02 d1
                    have d2 := cell_kept hb02 d2
                    obtain ⟨hc1, hc2⟩ := HCL.out items[j] (List.getElem_mem _)
                    have H3 : Hid (s2.data.toList ++ (Pat.printItem items[j] ++ ((items.drop (j + 1)).flatMap Pat.printItem ++ (93 :: R))) = T) := Lib.hid (by
                      have := H2.out
                      rw [List.drop_eq_getElem_cons hjl, List.flatMap_cons, List.append_assoc] at this
                      exact this)
                    generalize items[j] = it at *
                    obtain ⟨cls, lo, hi⟩ := it
                    dsimp only at d0 d1 d2 hr1 hr2 hr3 hr4 hc1 hc2
                    by_cases hcz : cls = 0
                    · subst hcz
                      by_cases hlh : lo = hi
                      · subst hlh
                        have hcv := fun C => conv_one wr C lo hr1 hr2
                        have H4 : Hid ((s2 ++ ByteArray.mk #[Pat.byteI lo]).data.toList ++ ((items.drop (j + 1)).flatMap Pat.printItem ++ (93 :: R)) = T) := Lib.hid (by
                          rw [← H3.out, Pat.data_app]; simp [Pat.printItem])
                        have hle := le_total H4.out
                        go_wp2_with fail
                        go_roundw
                        case rel => exact ⟨j + 1, _, by omega, rfl, by go_num, (hb2.alloc hb2.size _).alloc (by have := hb2.size; simp; omega) _, hle, H4⟩
                        case measure => simp [intOf]; omega
                      · have hne : (lo == hi) = false := by simp [hlh]
                        have hcv := fun C => conv_three wr C lo hi hr1 hr2 hr3 hr4
                        have H4 : Hid ((s2 ++ ByteArray.mk #[Pat.byteI lo, 45, Pat.byteI hi]).data.toList ++ ((items.drop (j + 1)).flatMap Pat.printItem ++ (93 :: R)) = T) := Lib.hid (by
                          rw [← H3.out, Pat.data_app]; simp [Pat.printItem, hlh])
                        have hle := le_total H4.out
                        clear hlh
                        go_wp2_with fail
                        go_roundw
                        case rel => exact ⟨j + 1, _, by omega, rfl, by go_num, (hb2.alloc hb2.size _).alloc (by have := hb2.size; simp; omega) _, hle, H4⟩
                        case measure => simp [intOf]; omega
                    · have hne : (cls != 0) = true := by simp [hcz]
                      obtain ⟨cn, rfl⟩ := Int.eq_ofNat_of_zero_le hc1
                      obtain ⟨cb, co, cc, n1, n2⟩ := Names.kept hb02 HNo.out
                      have n3 := n2 cn (by omega)
                      have hnl := names_le cn
                      have H4 : Hid ((s2 ++ (ByteArray.mk #[91, 58] ++ ByteArray.mk (Pat.names.getD cn []).toArray ++ ByteArray.mk #[58, 93])).data.toList ++ ((items.drop (j + 1)).flatMap Pat.printItem ++ (93 :: R)) = T) := Lib.hid (by
                        rw [← H3.out, Pat.data_app, Pat.data_app, Pat.data_app, Pat.data_mk, Pat.printItem, if_neg hcz, Int.toNat_natCast]
                        simp only [List.append_assoc])
                      have hle := le_total H4.out
                      rw [← Pat.size_mk] at hnl
                      generalize ByteArray.mk (Pat.names.getD cn []).toArray = nm at *
                      have hcn : cn < 13 := by omega
                      have n1 := fun C => cell_kept ((Below.refl _ wr).alloc (Nat.le_refl _) C) n1
                      have n3 := fun C => cell_kept ((Below.refl _ wr).alloc (Nat.le_refl _) C) n3
                      clear n2 hcz
                      go_wp2_with fail
                      go_roundw
                      case rel => exact ⟨j + 1, _, by omega, rfl, by go_num, hb2.alloc hb2.size _, hle, H4⟩
                      case measure => simp [intOf]; omega
                  · have H4 : Hid ((s2 ++ ByteArray.mk #[93]).data.toList ++ (qs.drop (k + 1)).flatMap printQ = T) := Lib.hid (by
                      have := H2.out
                      rw [List.drop_eq_nil_iff.2 (by omega)] at this
                      rw [HR.out, ← this, Pat.data_app]; simp)
                    have hle := le_total H4.out
                    go_wp2_with fail
                    go_roundw
                    case rel => exact ⟨k + 1, _, by omega, rfl, by go_num, hbw2, hle, H4⟩
                    case measure => simp [intOf]; omega
            · have e4 : (kind == 4) = false := by simp [k4]
              by_cases k5 : kind = 5
              · subst k5
                clear k1 k2 k3 k4 HI HAI hli
                obtain ⟨bl, ol, hsl, hll, hcl⟩ := HLS.out rfl
                obtain ⟨al', capl', hvl, hal⟩ := sliceAt_shape hsl
                obtain ⟨rfl, rfl, rfl⟩ : al' = al ∧ ls.length = nl ∧ capl' = capl := by simp at hvl; simp [hvl]
                have HL := Lib.hid hcl
                have HAL := Lib.hid hal
                clear hvl hcl hal HLS HC hsl
                obtain ⟨wo, rfl⟩ : ∃ wo : World, wo = wr := ⟨_, rfl⟩
                have hcv := fun C => conv_one wo C sign hs0 hs1
                have hS1 : (s ++ (ByteArray.mk #[Pat.byteI sign] ++ ByteArray.mk #[40])).data.toList ++ (tailB (ls.map (·.2)) 0 ++ (41 :: R)) = T := by
                  rw [← HS.out, Pat.data_app, Pat.data_app]; simp [printQ, Pat.printFlat, tailB]
                have hle1 := le_total hS1
                have HS1 := Lib.hid hS1
                have hbo : ∀ C D, Below w.heap.size w ((wo.alloc C).alloc D) := fun C D => (hbw.alloc hbw.size _).alloc (by have := hbw.size; simp; omega) _
                have HBO := Lib.hid hbo
                clear hS1 hbo
                go_wp2_with fail
                go_loopw [3, 115] (fun out i w2 => ∃ (j : Nat) (s2 : ByteArray), j ≤ ls.length ∧ out = .string s2 ∧ i = .int .i64 j ∧ Below w.heap.size w w2 ∧ s2.size ≤ T.length ∧ Hid (s2.data.toList ++ (tailB (ls.map (·.2)) j ++ (41 :: R)) = T)) (fun _ i _ => ls.length - (intOf i).toNat)
                case atStart => exact ⟨0, _, Nat.zero_le _, rfl, rfl, HBO.out _ _, hle1, HS1⟩
                case round =>
                  obtain ⟨j, s2, hj, rfl, rfl, hb2, hs2, H2⟩ := hrel
                  by_cases hjl : j < ls.length
                  · obtain rfl := HAL.out (by omega)
                    obtain ⟨d0, hcall⟩ := HL.out j hjl
                    have d0 := cell_kept hb2 d0
                    have HC := Lib.hid (hcall wr hb2)
                    clear hcall
                    have hx : (ls.map (·.2))[j]'(by simpa using hjl) = ls[j].2 := by simp
                    by_cases hj0 : j = 0
                    · have hS2 : (s2 ++ ByteArray.mk ls[j].2.toArray).data.toList ++ (tailB (ls.map (·.2)) (j + 1) ++ (41 :: R)) = T := by
                        rw [← H2.out, tailB_zero (ls.map (·.2)) j hj0 (by simpa using hjl), hx, Pat.data_app, Pat.data_mk]; simp
                      have hle := le_total hS2
                      have hgt : ¬ (0 : Int) < (j : Int) := by omega
                      have HS2 := Lib.hid hS2
                      have hz := ByteArray.size_append (a := s2) (b := ByteArray.mk ls[j].2.toArray)
                      have hz2 : s2.size + (ByteArray.mk ls[j].2.toArray).size ≤ 9223372036854775807 := by omega
                      clear hS2 hx hj0 hz
                      generalize ls[j].1 = vj at d0 HC
                      generalize ByteArray.mk ls[j].2.toArray = rj at *
                      go_wp2_with (go_at_call 13; refine (HC.out).mono ?_; rintro e w' ⟨rfl, hb3⟩)
                      go_roundw
                      case rel => exact ⟨j + 1, _, by omega, rfl, by go_num, hb2.trans (hb3.mono hb2.size), hle, HS2⟩
                      case measure => simp [intOf]; omega
                    · have hS2 : (s2 ++ ByteArray.mk #[124] ++ ByteArray.mk ls[j].2.toArray).data.toList ++ (tailB (ls.map (·.2)) (j + 1) ++ (41 :: R)) = T := by
                        rw [← H2.out, tailB_succ (ls.map (·.2)) j hj0 (by simpa using hjl), hx, Pat.data_app, Pat.data_app, Pat.data_mk]; simp
                      have hle := le_total hS2
                      have hgt : (0 : Int) < (j : Int) := by omega
                      have HS2 := Lib.hid hS2
                      have hz := ByteArray.size_append (a := s2 ++ ByteArray.mk #[124]) (b := ByteArray.mk ls[j].2.toArray)
                      have hz1 := ByteArray.size_append (a := s2) (b := ByteArray.mk #[124])
                      have hz3 : (ByteArray.mk #[124]).size = 1 := rfl
                      have hz2 : s2.size + 1 + (ByteArray.mk ls[j].2.toArray).size ≤ 9223372036854775807 := by omega
                      clear hS2 hx hj0 hz hz1 hz3
                      generalize ls[j].1 = vj at d0 HC
                      generalize ByteArray.mk ls[j].2.toArray = rj at *
                      go_wp2_with (go_at_call 13; refine (HC.out).mono ?_; rintro e w' ⟨rfl, hb3⟩)
                      go_roundw
                      case rel => exact ⟨j + 1, _, by omega, rfl, by go_num, hb2.trans (hb3.mono hb2.size), hle, HS2⟩
                      case measure => simp [intOf]; omega
                  · have H4 : Hid ((s2 ++ ByteArray.mk #[41]).data.toList ++ (qs.drop (k + 1)).flatMap printQ = T) := Lib.hid (by
                      rw [HR.out, ← H2.out, tailB_end (ls.map (·.2)) j (by simp; omega), Pat.data_app]; simp)
                    have hle := le_total H4.out
                    go_wp2_with fail
                    go_roundw
                    case rel => exact ⟨k + 1, _, by omega, rfl, by go_num, hb2, hle, H4⟩
                    case measure => simp [intOf]; omega
              · have e5 : (kind == 5) = false := by simp [k5]
                have H3 : Hid (s.data.toList ++ (qs.drop (k + 1)).flatMap printQ = T) := Lib.hid (by
                  rw [HR.out, ← HS.out]; simp [printQ, Pat.printFlat, k1, k2, k3, k4, k5])
                clear k1 k2 k3 k4 k5
                go_wp2_with fail
                go_roundw
                case rel => exact ⟨k + 1, _, by omega, rfl, by go_num, hbw.alloc hbw.size _, hsz, H3⟩
                case measure => simp [intOf]; omega
    · have H3 : Hid (s = ⟨T.toArray⟩) := Lib.hid (by
        have := H.out
        rw [List.drop_eq_nil_iff.2 (by omega)] at this
        rw [← this]; simp)
      go_wp2_with fail
      go_ret
      exact ⟨by rw [H3.out]; rfl, hbw⟩
end Go.Proofs.YtpfgmiocdgfniaaGreatFmt

namespace Go.Proofs.YtpfgmiocdgfniaaGreatFmt
open Go.ChangeShapes Go.WideShapes Go.ChangeAt Go.RowKit
theorem okFlat_cls {p : PF} (h : Pat.okFlat p = true) : clsOk p := by
  intro k4
  have h' : p.items.all Pat.itemI = true ∧ p.items ≠ [] := by
    simp [Pat.okFlat, k4] at h
    exact ⟨by simpa using h.1, h.2⟩
  refine ⟨h'.2, fun i hi => ?_⟩
  have := List.all_eq_true.1 h'.1 i hi
  by_cases hc : i.cls = 0
  · omega
  · simp [Pat.itemI, hc] at this
    omega
theorem print_nil (a : Option Addr) (c : Nat) (w : World) :
    Calls Tryz.prog 13 #[.slice a 0 c] w fun e w' => e = .returned (.string ⟨#[]⟩) ∧ Below w.heap.size w w' := by
  go_enter Tryz.func13, Tryz.ntmps13
  go_wp2_with fail
  refine wp_loop_rounds 1 ?_
  rw [rounds_succ]
  go_wp2_with fail
  go_ret
  exact ⟨rfl, Below.refl _ _⟩
theorem print_flat (v : Value) (ps : List PF) (w : World) (hn : Names w) (hp : ∃ b o, SliceAt v ps.length b o ∧ ps.length ≤ 70368744177664 ∧ ∀ i (h : i < ps.length), ∃ a c, FlatAt w b (o + i * 6) ps[i] (.slice a 0 c))
    (hok : ∀ p ∈ ps, Pat.okFlat p = true) (hT : (ps.flatMap fun p => Pat.printFlat p []).length ≤ 4611686018427387904) :
    Calls Tryz.prog 13 #[v] w fun e w' => e = .returned (.string ⟨(ps.flatMap fun p => Pat.printFlat p []).toArray⟩) ∧ Below w.heap.size w w' := by
  obtain ⟨b, o, hs, hl, hc⟩ := hp
  rcases hs with ⟨hz, a, c, rfl⟩ | ⟨c, rfl⟩
  · have e : ps = [] := List.length_eq_zero_iff.1 hz
    subst e
    exact print_nil a c w
  · have e : (ps.map fun p => (p, ([] : List (Value × List UInt8)))).flatMap printQ = ps.flatMap fun p => Pat.printFlat p [] := by
      rw [List.flatMap_map]; simp [printQ]
    have := print_core (ps.map fun p => (p, [])) b o c w (by simpa using hl) (by rw [e]; exact hT) hn (fun i hi => by
      have hi' : i < ps.length := by simpa using hi
      obtain ⟨a, c', hf⟩ := hc i hi'
      refine ⟨.slice a 0 c', by simpa using hf, by simpa using okFlat_cls (hok _ (List.getElem_mem hi')), fun k5 => ?_, a, 0, c', rfl⟩
      exact ⟨0, 0, .inl ⟨by simp, a, c', rfl⟩, by simp, fun j hj => by simp at hj⟩)
    rwa [List.length_map, e] at this
theorem flatMap_le {α : Type} (f : α → List UInt8) (l : List α) (x : α) (h : x ∈ l) : (f x).length ≤ (l.flatMap f).length := by
  induction l with
  | nil => cases h
  | cons y r ih =>
    rw [List.flatMap_cons, List.length_append]
    rcases List.mem_cons.1 h with rfl | h
    · omega
    · have := ih h; omega
theorem bars_le (l : List (List UInt8)) (x : List UInt8) (h : x ∈ l) : x.length ≤ (Pat.bars l).length := by
  cases l with
  | nil => cases h
  | cons y r =>
    rw [Pat.bars_cons, List.length_append]
    rcases List.mem_cons.1 h with rfl | h
    · omega
    · have h1 := flatMap_le (fun x => (124 : UInt8) :: x) r x h
      simp only [List.length_cons] at h1
      simp only [Pat.barred]; omega
theorem zip_flatMap {α β γ : Type} (f : α → β) (F : β × γ → List UInt8) (G : α → List UInt8) : ∀ (A : List α) (L : List γ), L.length = A.length → (∀ i (h1 : i < A.length) (h2 : i < L.length), F (f A[i], L[i]) = G A[i]) → ((A.map f).zip L).flatMap F = A.flatMap G
  | [], L, _, _ => by simp
  | a :: A, [], h, _ => by simp at h
  | a :: A, l :: L, h, hi => by
    have h0 := hi 0 (by simp) (by simp)
    have hr := zip_flatMap f F G A L (by simpa using h) (fun i h1 h2 => by
      have := hi (i + 1) (by simp; omega) (by simp; omega)
      simpa using this)
    simp only [List.map_cons, List.zip_cons_cons, List.flatMap_cons, hr]
    simp only [List.getElem_cons_zero] at h0
    rw [h0]
theorem print_any (g nt : Bool) : ∀ (n : Nat) (d : Int) (v : Value) (ps : List (PT n)) (w : World), Names w → PiecesAt n w v ps → Pat.okP n g nt d ps = true → (Pat.printP n ps).length ≤ 4611686018427387904 →
    Calls Tryz.prog 13 #[v] w fun e w' => e = .returned (.string ⟨(Pat.printP n ps).toArray⟩) ∧ Below w.heap.size w w'
  | 0, d, v, ps, w, hn, hp, hok, hT => by
    have h2 : ∀ p ∈ (ps : List PF), Pat.okFlat p = true := by
      simp only [Pat.okP, Bool.and_eq_true] at hok
      exact List.all_eq_true.1 hok.2
    exact print_flat v ps w hn hp h2 hT
  | n + 1, d, v, ps, w, hn, ⟨b, o, hs, hl, hc⟩, hok, hT => by
    have hok2 : ∀ p ∈ ps, (if p.1.kind = 5 then g && !p.2.isEmpty && Pat.signB nt p.1.sign && p.2.all (Pat.okP n g nt (d + 1)) else Pat.okFlat p.1) = true := by
      simp only [Pat.okP, Bool.and_eq_true] at hok
      exact List.all_eq_true.1 hok.2
    rcases hs with ⟨hz, a, c, rfl⟩ | ⟨c, rfl⟩
    · have e : ps = [] := List.length_eq_zero_iff.1 hz
      subst e
      exact print_nil a c w
    · obtain ⟨L, hL, hLp⟩ := choose_list (α := List (Value × List UInt8)) (n := ps.length) (P := fun i l => ∃ h : i < ps.length, (∃ vl, FlatAt w b (o + i * 6) ps[i].1 vl ∧ clsOk ps[i].1 ∧ (ps[i].1.kind = 5 → ListsP w vl l) ∧ ∃ a n c, vl = .slice a n c) ∧ l.map (·.2) = ps[i].2.map (Pat.printP n)) (fun i hi => by
        obtain ⟨vl, hf, b2, o2, hs2, hl2, hc2⟩ := hc i hi
        obtain ⟨al, cl, hvl, _⟩ := sliceAt_shape hs2
        have hoki := hok2 ps[i] (List.getElem_mem hi)
        obtain ⟨l, hll, hlp⟩ := choose_list (α := Value) (n := ps[i].2.length) (P := fun j x => ∃ h : j < ps[i].2.length, w.cell? ⟨b2, o2 + j, none⟩ = some x ∧ PiecesAt n w x ps[i].2[j]) (fun j hj => by
          obtain ⟨vj, h1, h2⟩ := hc2 j hj
          exact ⟨vj, hj, h1, h2⟩)
        refine ⟨l.zip (ps[i].2.map (Pat.printP n)), hi, ⟨vl, hf, ?_, fun k5 => ⟨b2, o2, by simpa [hll] using hs2, by simpa [hll] using hl2, fun j hj => ?_⟩, al, _, cl, hvl⟩, by rw [List.map_snd_zip]; simp [hll]⟩
        · by_cases k5 : ps[i].1.kind = 5
          · intro k4; omega
          · rw [if_neg k5] at hoki
            exact okFlat_cls hoki
        · have hj1 : j < l.length := by simp at hj; omega
          obtain ⟨hj2, h1, h2⟩ := hlp j hj1
          refine ⟨by simpa using h1, fun w' hw' => ?_⟩
          rw [if_pos k5] at hoki
          simp only [Bool.and_eq_true] at hoki
          have hokj := List.all_eq_true.1 hoki.2 ps[i].2[j] (List.getElem_mem hj2)
          have hle : (Pat.printP n ps[i].2[j]).length ≤ 4611686018427387904 := by
            have e1 : (Pat.printP n ps[i].2[j]).length ≤ (Pat.bars (ps[i].2.map (Pat.printP n))).length := bars_le _ _ (List.mem_map_of_mem (List.getElem_mem hj2))
            have e2 := flatMap_le (fun p : PT (n + 1) => Pat.printFlat p.1 (p.2.map (Pat.printP n))) ps ps[i] (List.getElem_mem hi)
            have e3 : (Pat.printFlat ps[i].1 (ps[i].2.map (Pat.printP n))) = [Pat.byteI ps[i].1.sign, 40] ++ Pat.bars (ps[i].2.map (Pat.printP n)) ++ [41] := by
              simp [Pat.printFlat, k5]
            rw [e3] at e2
            simp only [List.length_append] at e2
            simp only [Pat.printP] at hT
            omega
          have := print_any g nt n (d + 1) l[j] ps[i].2[j] w' (Names.kept hw' hn) (PiecesAt.kept hw' n h2) hokj hle
          simpa using this)
      have e : ((ps.map (·.1)).zip L).flatMap printQ = Pat.printP (n + 1) ps := by
        refine zip_flatMap (·.1) printQ _ ps L hL fun i h1 h2 => ?_
        obtain ⟨_, _, hm⟩ := hLp i h2
        simp only [printQ, hm]
      have := print_core ((ps.map (·.1)).zip L) b o c w (by simpa [hL] using hl) (by rw [e]; exact hT) hn (fun i hi => by
        have hi1 : i < L.length := by simp at hi; omega
        obtain ⟨hi2, ⟨vl, hf, hcl, hls, hsh⟩, _⟩ := hLp i hi1
        exact ⟨vl, by simpa using hf, by simpa using hcl, by simpa using hls, hsh⟩)
      rwa [show ((ps.map (·.1)).zip L).length = ps.length from by simp [hL], e] at this
end Go.Proofs.YtpfgmiocdgfniaaGreatFmt
