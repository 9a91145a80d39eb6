/- The walk of Print. -/
import Derived.Test.YtmgdljhamplgiaaDoorPrintP
import Derived.Laws.IdiomStrings
namespace Go.Proofs.YtmgdljhamplgiaaDoor
open Go.ChangeShapes Go.WideShapes Go.ChangeAt Go.RowKit
set_option linter.unusedVariables false

abbrev QP := PF × List (Value × List UInt8)
def printQ (q : QP) : List UInt8 := Pat.printFlat q.1 (q.2.map (·.2))
def clsOk (p : PF) : Prop := p.kind = 4 → p.items ≠ [] ∧ ∀ i ∈ p.items, 0 ≤ i.cls ∧ i.cls ≤ 12
def ListsP (w : World) (vl : Value) (ls : List (Value × List UInt8)) : Prop :=
  ∃ b2 o2, SliceAt vl ls.length b2 o2 ∧ ls.length ≤ 70368744177664 ∧ ∀ j (h : j < ls.length), w.cell? ⟨b2, o2 + j, none⟩ = some ls[j].1 ∧
    ∀ w', Below w.heap.size w w' → Calls Tryd.prog 7 #[ls[j].1] w' fun e w'' => e = .returned (.string ⟨ls[j].2.toArray⟩) ∧ Below w'.heap.size w' w''
theorem le_total {o : ByteArray} {r t : List UInt8} (h : o.data.toList ++ r = t) : o.size ≤ t.length := by
  rw [← h, List.length_append, Pat.size_toList]; omega

/-- what is still to be printed of lists, from the j-th on -/
def tailB (l : List (List UInt8)) (j : Nat) : List UInt8 := if j = 0 then Pat.bars l else Pat.barred (l.drop j)
theorem tailB_zero (l : List (List UInt8)) (j : Nat) (h : j = 0) (hl : j < l.length) : tailB l j = l[j] ++ tailB l (j + 1) := by
  subst h
  cases l with
  | nil => simp at hl
  | cons x r => simp [tailB, Pat.bars_cons]
theorem tailB_succ (l : List (List UInt8)) (j : Nat) (h : ¬ j = 0) (hl : j < l.length) : tailB l j = 124 :: l[j] ++ tailB l (j + 1) := by
  simp only [tailB, if_neg h, if_neg (Nat.succ_ne_zero j)]
  rw [List.drop_eq_getElem_cons hl, Pat.barred, List.flatMap_cons, Pat.barred]
theorem tailB_end (l : List (List UInt8)) (j : Nat) (hl : l.length ≤ j) : tailB l j = [] := by
  by_cases h : j = 0
  · have : l = [] := List.length_eq_zero_iff.1 (by omega)
    simp [tailB, h, this, Pat.bars]
  · simp only [tailB, if_neg h, List.drop_eq_nil_iff.2 hl, Pat.barred, List.flatMap_nil]
theorem byteI_toNat {x : Int} (h0 : 0 ≤ x) (h1 : x ≤ 255) : ((Pat.byteI x).toNat : Int) = x := by simp [Pat.byteI]; omega
theorem conv_one (w : World) (C : Obj) (x : Int) (h0 : 0 ≤ x) (h1 : x ≤ 255) : (convert 41 9 (.slice (some ⟨w.heap.size + 1, 0, none⟩) 1 1)).run Tryd.prog ((w.alloc C).alloc (.cells #[.int .u8 x] 5)) = .ok (.string ⟨#[Pat.byteI x]⟩) ((w.alloc C).alloc (.cells #[.int .u8 x] 5)) := by
  have hx := byteI_toNat h0 h1
  refine run_convert_bytes_back _ _ _ 5 _ 1 [Pat.byteI x] Tryd.underlying41 Tryd.underlying5 Tryd.underlying9 ?_
  intro j hj
  match j, hj with
  | 0, _ => simp [Addr.add, hx]
theorem conv_three (w : World) (C : Obj) (x y : Int) (h0 : 0 ≤ x) (h1 : x ≤ 255) (h2 : 0 ≤ y) (h3 : y ≤ 255) : (convert 41 9 (.slice (some ⟨w.heap.size + 1, 0, none⟩) 3 3)).run Tryd.prog ((w.alloc C).alloc (.cells #[.int .u8 x, .int .u8 45, .int .u8 y] 5)) = .ok (.string ⟨#[Pat.byteI x, 45, Pat.byteI y]⟩) ((w.alloc C).alloc (.cells #[.int .u8 x, .int .u8 45, .int .u8 y] 5)) := by
  have hx := byteI_toNat h0 h1
  have hy := byteI_toNat h2 h3
  refine run_convert_bytes_back _ _ _ 5 _ 3 [Pat.byteI x, 45, Pat.byteI y] Tryd.underlying41 Tryd.underlying5 Tryd.underlying9 ?_
  intro j hj
  match j, hj with
  | 0, _ => simp [Addr.add, hx]
  | 1, _ => simp [Addr.add]
  | 2, _ => simp [Addr.add, hy]
theorem names_le (i : Nat) : (Pat.names.getD i []).length ≤ 6 := by
  by_cases h : i < 13
  · match i, h with
    | 0, _ | 1, _ | 2, _ | 3, _ | 4, _ | 5, _ | 6, _ | 7, _ | 8, _ | 9, _ | 10, _ | 11, _ | 12, _ => decide
  · have h1 : Pat.names.length = 13 := rfl
    simp [List.getD, List.getElem?_eq_none (by omega : Pat.names.length ≤ i)]
set_option maxRecDepth 100000 in
set_option maxHeartbeats 4000000 in
theorem print_core (qs : List QP) (b o c : Nat) (w : World) (hl : qs.length ≤ 70368744177664) (ht : (qs.flatMap printQ).length ≤ 4611686018427387904) (hn : Names w)
    (hq : ∀ i (h : i < qs.length), ∃ vl, FlatAt w b (o + i * 6) qs[i].1 vl ∧ clsOk qs[i].1 ∧ (qs[i].1.kind = 5 → ListsP w vl qs[i].2) ∧ ∃ a n c, vl = .slice a n c) :
    Calls Tryd.prog 7 #[.slice (some ⟨b, o, none⟩) qs.length c] w fun e w' => e = .returned (.string ⟨(qs.flatMap printQ).toArray⟩) ∧ Below w.heap.size w w' := by
  have HQ := Lib.hid hq
  have HN := Lib.hid hn
  generalize hT : (qs.flatMap printQ) = T at *
  have HT := Lib.hid hT
  clear hq hn hT
  go_enter Tryd.func7, Tryd.ntmps7
  go_wp2
  go_loopw [3, 13] (fun out i wr => ∃ (k : Nat) (s : ByteArray), k ≤ qs.length ∧ out = .string s ∧ i = .int .i64 k ∧ Below w.heap.size w wr ∧ s.size ≤ T.length ∧ Hid (s.data.toList ++ (qs.drop k).flatMap printQ = T)) (fun _ i _ => qs.length - (intOf i).toNat)
  case atStart => exact ⟨0, ⟨#[]⟩, Nat.zero_le _, rfl, rfl, Below.refl _ _, Nat.zero_le _, Lib.hid (by simpa using HT.out)⟩
  case round =>
    obtain ⟨k, s, hk, rfl, rfl, hbw, hsz, H⟩ := hrel
    by_cases hlt : k < qs.length
    · obtain ⟨vl, hf, hcls, hls, al, nl, capl, rfl⟩ := HQ.out k hlt
      have hf' := FlatAt.kept hbw hf
      have hstep : s.data.toList ++ (printQ qs[k] ++ (qs.drop (k + 1)).flatMap printQ) = T := by
        have := H.out
        rwa [List.drop_eq_getElem_cons hlt, List.flatMap_cons] at this
      clear hf
      generalize hqk : qs[k] = qk at *
      clear hqk
      obtain ⟨⟨kind, text, neg, items, sign⟩, ls⟩ := qk
      generalize hR : (qs.drop (k + 1)).flatMap printQ = R at hstep
      have HR := Lib.hid hR
      have HS := Lib.hid hstep
      have HC := Lib.hid hcls
      have HLS := Lib.hid hls
      clear hR hstep hcls hls H
      obtain ⟨vi, c0, c1, c2, c3, c4, c5, htx, hit, hs0, hs1⟩ := hf'
      obtain ⟨bi, oi, hsi, hli, hci⟩ := hit
      obtain ⟨ai, capi, rfl, hai⟩ := sliceAt_shape hsi
      have HI := Lib.hid hci
      have HAI := Lib.hid hai
      clear hci hsi hai
      dsimp only at c0 c1 c2 c3 c4 c5 htx hs0 hs1 hli
      by_cases k1 : kind = 1
      · subst k1
        have HS1 : Hid (s.data.toList ++ (Pat.printText (text.data.toList.drop 0) ++ R) = T) := Lib.hid (by simpa [printQ, Pat.printFlat] using HS.out)
        obtain ⟨wo, rfl⟩ : ∃ wo : World, wo = wr := ⟨_, rfl⟩
        unfold maxLen at htx
        go_wp2_with fail
        go_loop [3, 6] (fun out i => ∃ (j : Nat) (s2 : ByteArray), j ≤ text.size ∧ out = .string s2 ∧ i = .int .i64 j ∧ s2.size ≤ T.length ∧ Hid (s2.data.toList ++ (Pat.printText (text.data.toList.drop j) ++ R) = T)) (fun _ i => text.size - (intOf i).toNat)
        case atStart => exact ⟨0, s, Nat.zero_le _, rfl, rfl, hsz, HS1⟩
        case round =>
          obtain ⟨j, s2, hj, rfl, rfl, hs2, H2⟩ := hrel
          by_cases hjl : j < text.size
          · have hD := Pat.drop_cons text j hjl
            have HX := Lib.hid (Pat.extract_one text j hjl)
            have hz := Pat.extract_one_size text j hjl
            have hz1 : s2.size + (text.extract j (j + 1)).size ≤ 9223372036854775807 := by omega
            have hz2 : s2.size + 1 + (text.extract j (j + 1)).size ≤ 9223372036854775807 := by omega
            have hsafe := safe_any (text[j].toNat : Int)
            cases hsf : Pat.safeI (text[j].toNat : Int)
            · rw [hsf] at hsafe
              have HSF := Lib.hid hsafe
              have H3 : Hid ((s2 ++ ByteArray.mk #[92] ++ text.extract j (j + 1)).data.toList ++ (Pat.printText (text.data.toList.drop (j + 1)) ++ R) = T) := Lib.hid (by
                have := H2.out
                rw [hD] at this
                rw [Pat.data_app, Pat.data_app, HX.out, ← this]
                simp [Pat.printText, Pat.esc1, hsf])
              have hle := le_total H3.out
              clear hsafe hsf hD hz
              go_wp2_with (go_at_call 12; refine (HSF.out _).mono ?_; rintro e w' ⟨rfl, rfl⟩)
              go_round
              case rel => exact ⟨j + 1, _, by omega, rfl, by go_num, hle, H3⟩
              case measure => simp [intOf]; omega
            · rw [hsf] at hsafe
              have HSF := Lib.hid hsafe
              have H3 : Hid ((s2 ++ text.extract j (j + 1)).data.toList ++ (Pat.printText (text.data.toList.drop (j + 1)) ++ R) = T) := Lib.hid (by
                have := H2.out
                rw [hD] at this
                rw [Pat.data_app, HX.out, ← this]
                simp [Pat.printText, Pat.esc1, hsf])
              have hle := le_total H3.out
              clear hsafe hsf hD hz
              go_wp2_with (go_at_call 12; refine (HSF.out _).mono ?_; rintro e w' ⟨rfl, rfl⟩)
              go_round
              case rel => exact ⟨j + 1, _, by omega, rfl, by go_num, hle, H3⟩
              case measure => simp [intOf]; omega
          · have H3 : Hid (s2.data.toList ++ (qs.drop (k + 1)).flatMap printQ = T) := Lib.hid (by
              have := H2.out
              rw [Pat.drop_end text j (by omega)] at this
              rw [HR.out]
              simpa [Pat.printText] using this)
            go_wp2_with fail
            go_roundw
            case rel => exact ⟨k + 1, s2, by omega, rfl, by go_num, hbw.alloc hbw.size _, hs2, H3⟩
            case measure => simp [intOf]; omega
      · have e1 : (kind == 1) = false := by simp [k1]
        by_cases k2 : kind = 2
        · subst k2
          clear k1
          have H3 : Hid ((s ++ ByteArray.mk #[63]).data.toList ++ (qs.drop (k + 1)).flatMap printQ = T) := Lib.hid (by
            rw [HR.out, ← HS.out, Pat.data_app]; simp [printQ, Pat.printFlat])
          have hle := le_total H3.out
          go_wp2_with fail
          go_roundw
          case rel => exact ⟨k + 1, _, by omega, rfl, by go_num, hbw.alloc hbw.size _, hle, H3⟩
          case measure => simp [intOf]; omega
        · have e2 : (kind == 2) = false := by simp [k2]
          by_cases k3 : kind = 3
          · subst k3
            clear k1 k2
            have H3 : Hid ((s ++ ByteArray.mk #[42]).data.toList ++ (qs.drop (k + 1)).flatMap printQ = T) := Lib.hid (by
              rw [HR.out, ← HS.out, Pat.data_app]; simp [printQ, Pat.printFlat])
            have hle := le_total H3.out
            go_wp2_with fail
            go_roundw
            case rel => exact ⟨k + 1, _, by omega, rfl, by go_num, hbw.alloc hbw.size _, hle, H3⟩
            case measure => simp [intOf]; omega
          · have e3 : (kind == 3) = false := by simp [k3]
            by_cases k4 : kind = 4
            · subst k4
              clear k1 k2 k3
              obtain ⟨hne, hcl⟩ := HC.out rfl
              have hzp : 0 < items.length := List.length_pos_iff.2 hne
              have HCL := Lib.hid hcl
              obtain rfl := HAI.out hzp
              obtain ⟨wo, rfl⟩ : ∃ wo : World, wo = wr := ⟨_, rfl⟩
              have HNo := Lib.hid (Names.kept hbw HN.out)
              clear hne hcl HC HLS
              obtain ⟨W1, hW1⟩ : ∃ W1 : World, W1 = wo.alloc (.cells #[.int .i64 4, .string text, .bool neg, .slice (some ⟨bi, oi, none⟩) items.length capi, .int .u8 sign, .slice al nl capl] 27) := ⟨_, rfl⟩
              have hb01 : Below wo.heap.size wo W1 := by subst hW1; exact (Below.refl _ _).alloc (Nat.le_refl _) _
              have HW1 := Lib.hid hW1
              clear hW1
              have hstart : ∃ s1 : ByteArray, s1 = (if neg then s ++ ByteArray.mk #[91] ++ ByteArray.mk #[33] else s ++ ByteArray.mk #[91]) := ⟨_, rfl⟩
              obtain ⟨s1, hs1e⟩ := hstart
              have HSS : Hid (s1.data.toList ++ ((items.drop 0).flatMap Pat.printItem ++ (93 :: R)) = T) := Lib.hid (by
                rw [← HS.out, hs1e]
                cases neg <;> simp [printQ, Pat.printFlat])
              have hle1 := le_total HSS.out
              cases neg
              all_goals
                simp only [Bool.false_eq_true, if_true, if_false] at hs1e
                have HE := Lib.hid hs1e
                clear hs1e
                go_wp2_with fail
                rw [← HW1.out, ← HE.out]
                go_loopw [3, 63] (fun out i w2 => ∃ (j : Nat) (s2 : ByteArray), j ≤ items.length ∧ out = .string s2 ∧ i = .int .i64 j ∧ Below W1.heap.size W1 w2 ∧ s2.size ≤ T.length ∧ Hid (s2.data.toList ++ ((items.drop j).flatMap Pat.printItem ++ (93 :: R)) = T)) (fun _ i _ => items.length - (intOf i).toNat)
                case atStart => exact ⟨0, s1, Nat.zero_le _, rfl, rfl, Below.refl _ _, hle1, HSS⟩
                case round =>
                  obtain ⟨j, s2, hj, rfl, rfl, hb2, hs2, H2⟩ := hrel
                  have hb02 : Below wo.heap.size wo wr := hb01.trans (hb2.mono hb01.size)
                  have hbw2 : Below w.heap.size w wr := hbw.trans (hb02.mono hbw.size)
                  by_cases hjl : j < items.length
                  · obtain ⟨d0, d1, d2, hr1, hr2, hr3, hr4⟩ := HI.out j hjl
                    have d0 := cell_kept hb02 d0
                    have d1 := cell_kept hb02 d1
                    have d2 := cell_kept hb02 d2
                    obtain ⟨hc1, hc2⟩ := HCL.out items[j] (List.getElem_mem _)
                    have H3 : Hid (s2.data.toList ++ (Pat.printItem items[j] ++ ((items.drop (j + 1)).flatMap Pat.printItem ++ (93 :: R))) = T) := Lib.hid (by
                      have := H2.out
                      rw [List.drop_eq_getElem_cons hjl, List.flatMap_cons, List.append_assoc] at this
                      exact this)
                    generalize items[j] = it at *
                    obtain ⟨cls, lo, hi⟩ := it
                    dsimp only at d0 d1 d2 hr1 hr2 hr3 hr4 hc1 hc2
                    by_cases hcz : cls = 0
                    · subst hcz
                      by_cases hlh : lo = hi
                      · subst hlh
                        have hcv := fun C => conv_one wr C lo hr1 hr2
                        have H4 : Hid ((s2 ++ ByteArray.mk #[Pat.byteI lo]).data.toList ++ ((items.drop (j + 1)).flatMap Pat.printItem ++ (93 :: R)) = T) := Lib.hid (by
                          rw [← H3.out, Pat.data_app]; simp [Pat.printItem])
                        have hle := le_total H4.out
                        go_wp2_with fail
                        go_roundw
                        case rel => exact ⟨j + 1, _, by omega, rfl, by go_num, (hb2.alloc hb2.size _).alloc (by have := hb2.size; simp; omega) _, hle, H4⟩
                        case measure => simp [intOf]; omega
                      · have hne : (lo == hi) = false := by simp [hlh]
                        have hcv := fun C => conv_three wr C lo hi hr1 hr2 hr3 hr4
                        have H4 : Hid ((s2 ++ ByteArray.mk #[Pat.byteI lo, 45, Pat.byteI hi]).data.toList ++ ((items.drop (j + 1)).flatMap Pat.printItem ++ (93 :: R)) = T) := Lib.hid (by
                          rw [← H3.out, Pat.data_app]; simp [Pat.printItem, hlh])
                        have hle := le_total H4.out
                        clear hlh
                        go_wp2_with fail
                        go_roundw
                        case rel => exact ⟨j + 1, _, by omega, rfl, by go_num, (hb2.alloc hb2.size _).alloc (by have := hb2.size; simp; omega) _, hle, H4⟩
                        case measure => simp [intOf]; omega
                    · have hne : (cls != 0) = true := by simp [hcz]
                      obtain ⟨cn, rfl⟩ := Int.eq_ofNat_of_zero_le hc1
                      obtain ⟨cb, co, cc, n1, n2⟩ := Names.kept hb02 HNo.out
                      have n3 := n2 cn (by omega)
                      have hnl := names_le cn
                      have H4 : Hid ((s2 ++ (ByteArray.mk #[91, 58] ++ ByteArray.mk (Pat.names.getD cn []).toArray ++ ByteArray.mk #[58, 93])).data.toList ++ ((items.drop (j + 1)).flatMap Pat.printItem ++ (93 :: R)) = T) := Lib.hid (by
                        rw [← H3.out, Pat.data_app, Pat.data_app, Pat.data_app, Pat.data_mk, Pat.printItem, if_neg hcz, Int.toNat_natCast]
                        simp only [List.append_assoc])
                      have hle := le_total H4.out
                      rw [← Pat.size_mk] at hnl
                      generalize ByteArray.mk (Pat.names.getD cn []).toArray = nm at *
                      have hcn : cn < 13 := by omega
                      have n1 := fun C => cell_kept ((Below.refl _ wr).alloc (Nat.le_refl _) C) n1
                      have n3 := fun C => cell_kept ((Below.refl _ wr).alloc (Nat.le_refl _) C) n3
                      clear n2 hcz
                      go_wp2_with fail
                      go_roundw
                      case rel => exact ⟨j + 1, _, by omega, rfl, by go_num, hb2.alloc hb2.size _, hle, H4⟩
                      case measure => simp [intOf]; omega
                  · have H4 : Hid ((s2 ++ ByteArray.mk #[93]).data.toList ++ (qs.drop (k + 1)).flatMap printQ = T) := Lib.hid (by
                      have := H2.out
                      rw [List.drop_eq_nil_iff.2 (by omega)] at this
                      rw [HR.out, ← this, Pat.data_app]; simp)
                    have hle := le_total H4.out
                    go_wp2_with fail
                    go_roundw
                    case rel => exact ⟨k + 1, _, by omega, rfl, by go_num, hbw2, hle, H4⟩
                    case measure => simp [intOf]; omega
            · have e4 : (kind == 4) = false := by simp [k4]
              by_cases k5 : kind = 5
              · subst k5
                clear k1 k2 k3 k4 HI HAI hli
                obtain ⟨bl, ol, hsl, hll, hcl⟩ := HLS.out rfl
                obtain ⟨al', capl', hvl, hal⟩ := sliceAt_shape hsl
                obtain ⟨rfl, rfl, rfl⟩ : al' = al ∧ ls.length = nl ∧ capl' = capl := by simp at hvl; simp [hvl]
                have HL := Lib.hid hcl
                have HAL := Lib.hid hal
                clear hvl hcl hal HLS HC hsl
                obtain ⟨wo, rfl⟩ : ∃ wo : World, wo = wr := ⟨_, rfl⟩
                have hcv := fun C => conv_one wo C sign hs0 hs1
                have hS1 : (s ++ (ByteArray.mk #[Pat.byteI sign] ++ ByteArray.mk #[40])).data.toList ++ (tailB (ls.map (·.2)) 0 ++ (41 :: R)) = T := by
                  rw [← HS.out, Pat.data_app, Pat.data_app]; simp [printQ, Pat.printFlat, tailB]
                have hle1 := le_total hS1
                have HS1 := Lib.hid hS1
                have hbo : ∀ C D, Below w.heap.size w ((wo.alloc C).alloc D) := fun C D => (hbw.alloc hbw.size _).alloc (by have := hbw.size; simp; omega) _
                have HBO := Lib.hid hbo
                clear hS1 hbo
                go_wp2_with fail
                go_loopw [3, 115] (fun out i w2 => ∃ (j : Nat) (s2 : ByteArray), j ≤ ls.length ∧ out = .string s2 ∧ i = .int .i64 j ∧ Below w.heap.size w w2 ∧ s2.size ≤ T.length ∧ Hid (s2.data.toList ++ (tailB (ls.map (·.2)) j ++ (41 :: R)) = T)) (fun _ i _ => ls.length - (intOf i).toNat)
                case atStart => exact ⟨0, _, Nat.zero_le _, rfl, rfl, HBO.out _ _, hle1, HS1⟩
                case round =>
                  obtain ⟨j, s2, hj, rfl, rfl, hb2, hs2, H2⟩ := hrel
                  by_cases hjl : j < ls.length
                  · obtain rfl := HAL.out (by omega)
                    obtain ⟨d0, hcall⟩ := HL.out j hjl
                    have d0 := cell_kept hb2 d0
                    have HC := Lib.hid (hcall wr hb2)
                    clear hcall
                    have hx : (ls.map (·.2))[j]'(by simpa using hjl) = ls[j].2 := by simp
                    by_cases hj0 : j = 0
                    · have hS2 : (s2 ++ ByteArray.mk ls[j].2.toArray).data.toList ++ (tailB (ls.map (·.2)) (j + 1) ++ (41 :: R)) = T := by
                        rw [← H2.out, tailB_zero (ls.map (·.2)) j hj0 (by simpa using hjl), hx, Pat.data_app, Pat.data_mk]; simp
                      have hle := le_total hS2
                      have hgt : ¬ (0 : Int) < (j : Int) := by omega
                      have HS2 := Lib.hid hS2
                      have hz := ByteArray.size_append (a := s2) (b := ByteArray.mk ls[j].2.toArray)
                      have hz2 : s2.size + (ByteArray.mk ls[j].2.toArray).size ≤ 9223372036854775807 := by omega
                      clear hS2 hx hj0 hz
                      generalize ls[j].1 = vj at d0 HC
                      generalize ByteArray.mk ls[j].2.toArray = rj at *
                      go_wp2_with (go_at_call 7; refine (HC.out).mono ?_; rintro e w' ⟨rfl, hb3⟩)
                      go_roundw
                      case rel => exact ⟨j + 1, _, by omega, rfl, by go_num, hb2.trans (hb3.mono hb2.size), hle, HS2⟩
                      case measure => simp [intOf]; omega
                    · have hS2 : (s2 ++ ByteArray.mk #[124] ++ ByteArray.mk ls[j].2.toArray).data.toList ++ (tailB (ls.map (·.2)) (j + 1) ++ (41 :: R)) = T := by
                        rw [← H2.out, tailB_succ (ls.map (·.2)) j hj0 (by simpa using hjl), hx, Pat.data_app, Pat.data_app, Pat.data_mk]; simp
                      have hle := le_total hS2
                      have hgt : (0 : Int) < (j : Int) := by omega
                      have HS2 := Lib.hid hS2
                      have hz := ByteArray.size_append (a := s2 ++ ByteArray.mk #[124]) (b := ByteArray.mk ls[j].2.toArray)
                      have hz1 := ByteArray.size_append (a := s2) (b := ByteArray.mk #[124])
                      have hz3 : (ByteArray.mk #[124]).size = 1 := rfl
                      have hz2 : s2.size + 1 + (ByteArray.mk ls[j].2.toArray).size ≤ 9223372036854775807 := by omega
                      clear hS2 hx hj0 hz hz1 hz3
                      generalize ls[j].1 = vj at d0 HC
                      generalize ByteArray.mk ls[j].2.toArray = rj at *
                      go_wp2_with (go_at_call 7; refine (HC.out).mono ?_; rintro e w' ⟨rfl, hb3⟩)
                      go_roundw
                      case rel => exact ⟨j + 1, _, by omega, rfl, by go_num, hb2.trans (hb3.mono hb2.size), hle, HS2⟩
                      case measure => simp [intOf]; omega
                  · have H4 : Hid ((s2 ++ ByteArray.mk #[41]).data.toList ++ (qs.drop (k + 1)).flatMap printQ = T) := Lib.hid (by
                      rw [HR.out, ← H2.out, tailB_end (ls.map (·.2)) j (by simp; omega), Pat.data_app]; simp)
                    have hle := le_total H4.out
                    go_wp2_with fail
                    go_roundw
                    case rel => exact ⟨k + 1, _, by omega, rfl, by go_num, hb2, hle, H4⟩
                    case measure => simp [intOf]; omega
              · have e5 : (kind == 5) = false := by simp [k5]
                have H3 : Hid (s.data.toList ++ (qs.drop (k + 1)).flatMap printQ = T) := Lib.hid (by
                  rw [HR.out, ← HS.out]; simp [printQ, Pat.printFlat, k1, k2, k3, k4, k5])
                clear k1 k2 k3 k4 k5
                go_wp2_with fail
                go_roundw
                case rel => exact ⟨k + 1, _, by omega, rfl, by go_num, hbw.alloc hbw.size _, hsz, H3⟩
                case measure => simp [intOf]; omega
    · have H3 : Hid (s = ⟨T.toArray⟩) := Lib.hid (by
        have := H.out
        rw [List.drop_eq_nil_iff.2 (by omega)] at this
        rw [← this]; simp)
      go_wp2_with fail
      go_ret
      exact ⟨by rw [H3.out]; rfl, hbw⟩
end Go.Proofs.YtmgdljhamplgiaaDoor
