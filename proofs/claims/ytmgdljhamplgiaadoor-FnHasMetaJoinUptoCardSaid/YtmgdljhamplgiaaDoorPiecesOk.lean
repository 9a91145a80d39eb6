/- The walk of PiecesOk. -/
import Derived.Test.YtmgdljhamplgiaaDoorWalkP
namespace Go.Proofs.YtmgdljhamplgiaaDoor
open Go.ChangeShapes Go.WideShapes Go.ChangeAt Go.RowKit
set_option linter.unusedVariables false

/-- a piece, and of each of its lists its value and what PiecesOk says of it -/
abbrev QL := PF × List (Value × Bool)
def okOne (g nt : Bool) (q : QL) : Bool := if q.1.kind = 5 then g && !q.2.isEmpty && Pat.signB nt q.1.sign && q.2.all (·.2) else Pat.okFlat q.1
def Lists (w : World) (g nt : Bool) (d : Int) (vl : Value) (ls : List (Value × Bool)) : Prop :=
  ∃ b2 o2, SliceAt vl ls.length b2 o2 ∧ ls.length ≤ 70368744177664 ∧ ∀ j (h : j < ls.length), w.cell? ⟨b2, o2 + j, none⟩ = some ls[j].1 ∧
    ∀ w', Below w.heap.size w w' → Calls Tryd.prog 5 #[ls[j].1, .bool g, .bool nt, .int .i64 (d + 1)] w' fun e w'' => e = .returned (.bool ls[j].2) ∧ Below w'.heap.size w' w''

theorem sliceAt_pos {v : Value} {len b o : Nat} (h : SliceAt v len b o) (hp : 0 < len) : ∃ c, v = .slice (some ⟨b, o, none⟩) len c := by
  rcases h with ⟨h0, _⟩ | h
  · omega
  · exact h

theorem sliceAt_shape {v : Value} {len b o : Nat} (h : SliceAt v len b o) : ∃ a c, v = .slice a len c ∧ (0 < len → a = some ⟨b, o, none⟩) := by
  rcases h with ⟨rfl, a, c, rfl⟩ | ⟨c, rfl⟩
  · exact ⟨a, c, rfl, fun h => by omega⟩
  · exact ⟨_, c, rfl, fun _ => rfl⟩
theorem all_snoc {g nt : Bool} {qs : List QL} {k : Nat} {q : PF} {ls : List (Value × Bool)} (hlt : k < qs.length) (hq : qs[k] = (q, ls)) (h : (qs.take k).all (okOne g nt) = true) (h1 : okOne g nt (q, ls) = true) : (qs.take (k + 1)).all (okOne g nt) = true := by
  rw [List.take_succ_eq_append_getElem hlt, List.all_append, h, hq]; simp [h1]
theorem all_fails {g nt : Bool} {qs : List QL} {k : Nat} {q : PF} {ls : List (Value × Bool)} (hlt : k < qs.length) (hq : qs[k] = (q, ls)) (h1 : okOne g nt (q, ls) = false) : qs.all (okOne g nt) = false := by
  rw [List.all_eq_false]
  exact ⟨qs[k], List.getElem_mem _, by rw [hq, h1]; simp⟩
theorem all_end {g nt : Bool} {qs : List QL} {k : Nat} (hlt : ¬ k < qs.length) (h : (qs.take k).all (okOne g nt) = true) : qs.all (okOne g nt) = true := by
  rwa [List.take_of_length_le (by omega)] at h

set_option maxRecDepth 100000 in
set_option maxHeartbeats 4000000 in
theorem piecesOk_core (qs : List QL) (g nt : Bool) (d : Int) (b o c : Nat) (w : World) (hd : d ≤ 3) (hd0 : 0 ≤ d) (hl : qs.length ≤ 70368744177664)
    (hq : ∀ i (h : i < qs.length), ∃ vl, FlatAt w b (o + i * 6) qs[i].1 vl ∧ Lists w g nt d vl qs[i].2) :
    Calls Tryd.prog 5 #[.slice (some ⟨b, o, none⟩) qs.length c, .bool g, .bool nt, .int .i64 d] w fun e w' => e = .returned (.bool (qs.all (okOne g nt))) ∧ Below w.heap.size w w' := by
  have HQ := Lib.hid hq
  clear hq
  go_enter Tryd.func5, Tryd.ntmps5
  go_wp2
  go_loopw [19] (fun i wr => ∃ k : Nat, k ≤ qs.length ∧ i = .int .i64 k ∧ Below w.heap.size w wr ∧ Hid ((qs.take k).all (okOne g nt) = true)) (fun i _ => qs.length - (intOf i).toNat)
  case atStart => exact ⟨0, Nat.zero_le _, rfl, Below.refl _ _, Lib.hid rfl⟩
  case round =>
    obtain ⟨k, hk, rfl, hbw, H⟩ := hrel
    by_cases hlt : k < qs.length
    · obtain ⟨vl, hf, hls⟩ := HQ.out k hlt
      have hf' := FlatAt.kept hbw hf
      clear hf
      generalize hqk : qs[k] = qk at *
      obtain ⟨⟨kind, text, neg, items, sign⟩, ls⟩ := qk
      have HK := Lib.hid hqk
      clear hqk
      obtain ⟨vi, c0, c1, c2, c3, c4, c5, ht, hit, hs0, hs1⟩ := hf'
      obtain ⟨bi, oi, hsi, hli, hci⟩ := hit
      obtain ⟨ai, capi, rfl, hai⟩ := sliceAt_shape hsi
      obtain ⟨bl, ol, hsl, hll, hcl⟩ := hls
      obtain ⟨al, capl, rfl, hal⟩ := sliceAt_shape hsl
      have HI := Lib.hid hci
      have HL := Lib.hid hcl
      have HAI := Lib.hid hai
      have HAL := Lib.hid hal
      clear hci hcl hsi hsl hai hal
      dsimp only at c0 c1 c2 c3 c4 c5 ht hs0 hs1 hli
      by_cases k1 : kind = 1
      · subst k1
        cases htx : Pat.textL text.data.toList
        · have hto := fun w => textOk_any text w ht
          rw [htx] at hto
          have HT := Lib.hid hto
          have HF := Lib.hid (all_fails (g := g) (nt := nt) hlt HK.out (by simp [okOne, Pat.okFlat, htx]))
          clear hto htx
          go_wp2_with (go_at_call 9; refine (HT.out _).mono ?_; rintro e w' ⟨rfl, rfl⟩)
          go_ret
          exact ⟨ret_bool (HF.out).symm, hbw.alloc hbw.size _⟩
        · have hto := fun w => textOk_any text w ht
          rw [htx] at hto
          have HT := Lib.hid hto
          have HF := Lib.hid (all_snoc (g := g) (nt := nt) hlt HK.out H.out (by simp [okOne, Pat.okFlat, htx]))
          clear hto htx
          go_wp2_with (go_at_call 9; refine (HT.out _).mono ?_; rintro e w' ⟨rfl, rfl⟩)
          go_roundw
          case rel => exact ⟨k + 1, by omega, by go_num, hbw.alloc hbw.size _, HF⟩
          case measure => simp [intOf]; omega
      · have e1 : (kind == 1) = false := by simp [k1]
        by_cases k2 : kind = 2
        · subst k2
          have HF := Lib.hid (all_snoc (g := g) (nt := nt) hlt HK.out H.out (by simp [okOne, Pat.okFlat]))
          clear k1
          go_wp2_with fail
          go_roundw
          case rel => exact ⟨k + 1, by omega, by go_num, hbw.alloc hbw.size _, HF⟩
          case measure => simp [intOf]; omega
        · have e2 : (kind == 2) = false := by simp [k2]
          by_cases k3 : kind = 3
          · subst k3
            have HF := Lib.hid (all_snoc (g := g) (nt := nt) hlt HK.out H.out (by simp [okOne, Pat.okFlat]))
            clear k1 k2
            go_wp2_with fail
            go_roundw
            case rel => exact ⟨k + 1, by omega, by go_num, hbw.alloc hbw.size _, HF⟩
            case measure => simp [intOf]; omega
          · have e3 : (kind == 3) = false := by simp [k3]
            by_cases k4 : kind = 4
            · subst k4
              clear k1 k2 k3
              by_cases hz : items.length = 0
              · have HF := Lib.hid (all_fails (g := g) (nt := nt) hlt HK.out (by simp [okOne, Pat.okFlat, List.length_eq_zero_iff.1 hz]))
                clear HI HAI HL HAL HK hli hll
                generalize items.length = ni at *
                subst hz
                go_wp2_with fail
                refine wp_loop_rounds 1 ?_
                rw [rounds_succ]
                go_wp2_with fail
                go_ret
                exact ⟨ret_bool (HF.out).symm, hbw.alloc hbw.size _⟩
              · have hzp : 0 < items.length := by omega
                obtain rfl := HAI.out hzp
                obtain ⟨wo, rfl⟩ : ∃ wo : World, wo = wr := ⟨_, rfl⟩
                go_wp2_with fail
                obtain ⟨W1, hW1⟩ : ∃ W1 : World, W1 = wo.alloc (.cells #[.int .i64 4, .string text, .bool neg, .slice (some ⟨bi, oi, none⟩) items.length capi, .int .u8 sign, .slice al ls.length capl] 27) := ⟨_, rfl⟩
                have hx3 : W1.cell? ⟨wo.heap.size, 3, none⟩ = some (.slice (some ⟨bi, oi, none⟩) items.length capi) := by subst hW1; simp
                have hsz1 : W1.heap.size = wo.heap.size + 1 := by subst hW1; simp
                have hb01 : Below wo.heap.size wo W1 := by subst hW1; exact (Below.refl _ _).alloc (Nat.le_refl _) _
                rw [← hW1]
                have HS1 := Lib.hid hsz1
                clear hW1 hsz1 hz c0 c1 c2 c3 c4 c5 HL HAL
                go_loopw [39] (fun i w2 => ∃ j : Nat, j ≤ items.length ∧ i = .int .i64 j ∧ Below W1.heap.size W1 w2 ∧ Hid ((items.take j).all Pat.itemI = true)) (fun i _ => items.length - (intOf i).toNat)
                case atStart => exact ⟨0, Nat.zero_le _, rfl, Below.refl _ _, Lib.hid rfl⟩
                case round =>
                  obtain ⟨j, hj, rfl, hb2, H2⟩ := hrel
                  have hb02 : Below wo.heap.size wo wr := hb01.trans (hb2.mono hb01.size)
                  have hbw2 : Below w.heap.size w wr := hbw.trans (hb02.mono hbw.size)
                  by_cases hjl : j < items.length
                  · obtain ⟨d0, d1, d2, _⟩ := HI.out j hjl
                    have d0 := cell_kept hb02 d0
                    have d1 := cell_kept hb02 d1
                    have d2 := cell_kept hb02 d2
                    have hio := itemOk_any items[j]
                    cases hit : Pat.itemI items[j]
                    · rw [hit] at hio
                      have HIO := Lib.hid hio
                      have HF := Lib.hid (all_fails (g := g) (nt := nt) hlt HK.out (by
                        have : items.all Pat.itemI = false := by rw [List.all_eq_false]; exact ⟨items[j], List.getElem_mem _, by rw [hit]; simp⟩
                        simp [okOne, Pat.okFlat, this]))
                      clear hio hit hx3
                      go_wp2_with (go_at_call 10; refine (HIO.out _).mono ?_; rintro e w' ⟨rfl, hb3⟩)
                      go_ret
                      exact ⟨ret_bool (HF.out).symm, (hbw2.alloc hbw2.size _).trans (hb3.mono (by have := hbw2.size; simp; omega))⟩
                    · rw [hit] at hio
                      have HIO := Lib.hid hio
                      have HF : Hid ((items.take (j + 1)).all Pat.itemI = true) := Lib.hid (by rw [List.take_succ_eq_append_getElem hjl, List.all_append, H2.out]; simp [hit])
                      clear hio hit hx3
                      go_wp2_with (go_at_call 10; refine (HIO.out _).mono ?_; rintro e w' ⟨rfl, hb3⟩)
                      go_roundw
                      case rel => exact ⟨j + 1, by omega, by go_num, (hb2.alloc hb2.size _).trans (hb3.mono (by have := hb2.size; simp; omega)), HF⟩
                      case measure => simp [intOf]; omega
                  · have hx3' : wr.cell? ⟨wo.heap.size, 3, none⟩ = some (.slice (some ⟨bi, oi, none⟩) items.length capi) := cell_kept hb2 hx3
                    have hne : ((items.length : Int) == 0) = false := by rw [beq_eq_false_iff_ne]; omega
                    have HF := Lib.hid (all_snoc (g := g) (nt := nt) hlt HK.out H.out (by
                      have h1 : items.all Pat.itemI = true := by have := H2.out; rwa [List.take_of_length_le (by omega)] at this
                      have h2 : items.isEmpty = false := by cases items with | nil => simp at hzp | cons _ _ => rfl
                      simp [okOne, Pat.okFlat, h1, h2]))
                    clear hx3
                    go_wp2_with fail
                    go_roundw
                    case rel => exact ⟨k + 1, by omega, by go_num, hbw2, HF⟩
                    case measure => simp [intOf]; omega
            · have e4 : (kind == 4) = false := by simp [k4]
              by_cases k5 : kind = 5
              · subst k5
                clear k1 k2 k3 k4 HI HAI hli
                have hfail : (g = false ∨ ls.length = 0 ∨ Pat.signB nt sign = false) → qs.all (okOne g nt) = false := fun h => all_fails hlt HK.out (by
                  rcases h with h | h | h
                  · simp [okOne, h]
                  · simp [okOne, List.length_eq_zero_iff.1 h]
                  · simp [okOne, h])
                have HFL := Lib.hid hfail
                clear hfail
                cases g
                · have HF := Lib.hid (HFL.out (.inl rfl))
                  clear HFL
                  go_wp2_with fail
                  go_ret
                  exact ⟨ret_bool (HF.out).symm, hbw.alloc hbw.size _⟩
                · by_cases hz : ls.length = 0
                  · have HF := Lib.hid (HFL.out (.inr (.inl hz)))
                    clear HFL HL HAL HK hll
                    generalize ls.length = nl at *
                    subst hz
                    go_wp2_with fail
                    go_ret
                    exact ⟨ret_bool (HF.out).symm, hbw.alloc hbw.size _⟩
                  · have hzp : 0 < ls.length := by omega
                    have hne : ((ls.length : Int) == 0) = false := by rw [beq_eq_false_iff_ne]; omega
                    obtain rfl := HAL.out hzp
                    cases hsg : Pat.signB nt sign
                    · have HF := Lib.hid (HFL.out (.inr (.inr hsg)))
                      have hs : (sign != 63) = true ∧ (sign != 42) = true ∧ (sign != 43) = true ∧ (sign != 64) = true ∧ ((sign != 33) = true ∨ (sign = 33 ∧ nt = false)) := by
                        simp [Pat.signB] at hsg ⊢
                        cases nt
                        · simp; omega
                        · simp at hsg ⊢; omega
                      obtain ⟨s1, s2, s3, s4, s5⟩ := hs
                      clear HFL HL HK hsg
                      rcases s5 with s5 | ⟨rfl, rfl⟩
                      · go_wp2_with fail
                        go_ret
                        exact ⟨ret_bool (HF.out).symm, hbw.alloc hbw.size _⟩
                      · clear s1 s2 s3 s4
                        go_wp2_with fail
                        go_ret
                        exact ⟨ret_bool (HF.out).symm, hbw.alloc hbw.size _⟩
                    · have HSG := Lib.hid hsg
                      have hs : sign = 63 ∨ sign = 42 ∨ sign = 43 ∨ sign = 64 ∨ (sign = 33 ∧ nt = true) := by
                        simp only [Pat.signB, Bool.or_eq_true, Bool.and_eq_true, beq_iff_eq] at hsg
                        rcases hsg with (((h | h) | h) | h) | h
                        · exact .inl h
                        · exact .inr (.inl h)
                        · exact .inr (.inr (.inl h))
                        · exact .inr (.inr (.inr (.inl h)))
                        · exact .inr (.inr (.inr (.inr h)))
                      clear HFL hsg
                      obtain ⟨wo, rfl⟩ : ∃ wo : World, wo = wr := ⟨_, rfl⟩
                      have hbo : Below w.heap.size w (wo.alloc (.cells #[.int .i64 5, .string text, .bool neg, .slice ai items.length capi, .int .u8 sign, .slice (some ⟨bl, ol, none⟩) ls.length capl] 27)) := hbw.alloc hbw.size _
                      have HFF : Hid (ls.all (·.2) = false → qs.all (okOne true nt) = false) := Lib.hid (fun h => all_fails hlt HK.out (by simp [okOne, h]))
                      have HFS : Hid (ls.all (·.2) = true → (qs.take (k + 1)).all (okOne true nt) = true) := Lib.hid (fun h => all_snoc hlt HK.out H.out (by
                        have h2 : ls.isEmpty = false := by cases ls with | nil => simp at hzp | cons _ _ => rfl
                        simp only [okOne, h, h2, HSG.out]; simp))
                      rcases hs with rfl | rfl | rfl | rfl | ⟨rfl, rfl⟩
                      all_goals
                        go_wp2_with fail
                        go_loopw [93] (fun i w2 => ∃ j : Nat, j ≤ ls.length ∧ i = .int .i64 j ∧ Below w.heap.size w w2 ∧ Hid ((ls.take j).all (·.2) = true)) (fun i _ => ls.length - (intOf i).toNat)
                        case atStart => exact ⟨0, Nat.zero_le _, rfl, hbo, Lib.hid rfl⟩
                        case round =>
                          obtain ⟨j, hj, rfl, hb2, H2⟩ := hrel
                          by_cases hjl : j < ls.length
                          · obtain ⟨d0, hcall⟩ := HL.out j hjl
                            have d0 := cell_kept hb2 d0
                            have HC := Lib.hid (hcall wr hb2)
                            clear hcall
                            generalize hvj : ls[j].1 = vj at d0 HC
                            clear hvj
                            cases hr : ls[j].2
                            · rw [hr] at HC
                              have HF := Lib.hid (HFF.out (by rw [List.all_eq_false]; exact ⟨ls[j], List.getElem_mem _, by rw [hr]; simp⟩))
                              clear hr
                              go_wp2_with (go_at_call 5; refine (HC.out).mono ?_; rintro e w' ⟨rfl, hb3⟩)
                              go_ret
                              exact ⟨ret_bool (HF.out).symm, hb2.trans (hb3.mono hb2.size)⟩
                            · rw [hr] at HC
                              have HF : Hid ((ls.take (j + 1)).all (·.2) = true) := Lib.hid (by rw [List.take_succ_eq_append_getElem hjl, List.all_append, H2.out]; simp [hr])
                              clear hr
                              go_wp2_with (go_at_call 5; refine (HC.out).mono ?_; rintro e w' ⟨rfl, hb3⟩)
                              go_roundw
                              case rel => exact ⟨j + 1, by omega, by go_num, hb2.trans (hb3.mono hb2.size), HF⟩
                              case measure => simp [intOf]; omega
                          · have HF := Lib.hid (HFS.out (by have := H2.out; rwa [List.take_of_length_le (by omega)] at this))
                            go_wp2_with fail
                            go_roundw
                            case rel => exact ⟨k + 1, by omega, by go_num, hb2, HF⟩
                            case measure => simp [intOf]; omega
              · have e5 : (kind == 5) = false := by simp [k5]
                have HF := Lib.hid (all_fails (g := g) (nt := nt) hlt HK.out (by simp [okOne, Pat.okFlat, k1, k2, k3, k4, k5]))
                clear k1 k2 k3 k4 k5
                go_wp2_with fail
                go_ret
                exact ⟨ret_bool (HF.out).symm, hbw.alloc hbw.size _⟩
    · have HF := Lib.hid (all_end hlt H.out)
      go_wp2_with fail
      go_ret
      exact ⟨ret_bool (HF.out).symm, hbw⟩
end Go.Proofs.YtmgdljhamplgiaaDoor
