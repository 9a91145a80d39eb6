/- Joined by pack.py: Quote, QuoteB, PqL. -/
import Derived.Test.YtpfgmiocdgfniaaGreatFmtP24
import Derived.Test.YtpfgmiocdgfniaaGreatFmtP01
import Derived.Lib.OthersKept
import Derived.Test.YtpfgmiocdgfniaaGreatFmtP37
set_option linter.unusedVariables false
set_option maxHeartbeats 8000000
set_option maxRecDepth 1000000
namespace Go.Proofs.YtpfgmiocdgfniaaGreatFmt
open Go.RowKit
theorem Pat.runeCells_ascii (c : UInt8) (h : c.toNat < 128) : Lib.runeCells (c.toNat : Int) = Lib.byteCells [c] := by
  simp [Lib.runeCells, Lib.encodeRuneZ_one (r := (c.toNat : Int)) (by omega) (by omega), Lib.byteCells]
theorem pquoteMeta_ascii (s : ByteArray) (m : Int) (w : World) (hs : s.size ≤ 35184372088832) (ha : Pat.asciiL s.data.toList = true) :
    Calls Tryz.prog 17 #[.string s, .int .u64 m] w fun e w' => e = .returned (.string ⟨(Pat.quoteL s.data.toList).toArray⟩) ∧ Below w.heap.size w w' := by
  have HA := Lib.hid ha
  clear ha
  go_enter Tryz.func17, Tryz.ntmps17
  go_wp2
  go_step3
  go_wp2
  go_step3
  go_wp2
  go_loopw [5] (fun nd wr => ∃ pos : Nat, nd = .bool false ∧ pos ≤ s.size ∧ wr.heap[w.heap.size]? = some (.stringIter s pos) ∧ Below w.heap.size w wr ∧ Hid (∀ c ∈ s.data.toList.take pos, Pat.quotedB c = false)) (fun _ wr => s.size - wr.iterPos w.heap.size)
  case atStart =>
    refine ⟨0, rfl, Nat.zero_le _, ?_, (Below.refl _ w).alloc (Nat.le_refl _) _, Lib.hid (by simp)⟩
    have := World.iter_heap w s 0
    simpa using this
  case round =>
    obtain ⟨pos, rfl, hp, hit, hbw, H⟩ := hrel
    have hsz : w.heap.size < wr.heap.size := (Array.getElem?_eq_some_iff.1 hit).1
    by_cases hlt : pos < s.size
    · have hasc := Pat.asciiL_at s HA.out pos hlt
      have hnx : ∀ ty, (Instr.next (.pointer (some ⟨w.heap.size, 0, none⟩)) true ty).run Tryz.prog wr = _ := fun ty => Lib.run_next_ascii_at wr w.heap.size s pos ty hit hlt hasc
      have hit2 := Lib.iterAt_heap wr w.heap.size s pos (pos + 1) hit
      have hbw2 := Lib.below_iterAt hbw (k := w.heap.size) (by omega) s (pos + 1)
      have hmeas : (wr.iterAt w.heap.size s (pos + 1)).iterPos w.heap.size = pos + 1 := by simp only [World.iterPos, hit2]
      have hmeas0 : wr.iterPos w.heap.size = pos := by simp only [World.iterPos, hit]
      have hsz2 : w.heap.size < (wr.iterAt w.heap.size s (pos + 1)).heap.size := by rw [Lib.iterAt_size]; exact hsz
      have HM := Lib.hid hmeas; have HM0 := Lib.hid hmeas0
      clear hmeas hmeas0
      generalize hWW : wr.iterAt w.heap.size s (pos + 1) = W0 at *
      clear hWW
      rcases Pat.quoted_cases s[pos] with ⟨k1, k2, k3, k4⟩ | k1 | ⟨k1, k2⟩ | ⟨k1, k2, k3⟩ | ⟨k1, k2, k3, k4⟩
      · go_wp2
        go_roundw
        case rel =>
          refine ⟨pos + 1, rfl, by omega, hit2, hbw2, Lib.hid ?_⟩
          rw [Pat.take_snoc s pos hlt]
          intro c hc
          rcases List.mem_append.1 hc with h | h
          · exact H.out c h
          · rw [List.mem_singleton.1 h]; exact Pat.quoted_no k1 k2 k3 k4
        case measure => rw [HM.out, HM0.out]; omega
      all_goals
        go_wp2
        clear hit hnx hbw hit2 HM HM0 hsz
        go_loopw [] (fun w2 => ∃ (p2 : Nat) (acc : List UInt8), p2 ≤ s.size ∧ IsB W0.heap.size W0.heap.size (Lib.byteCells acc) w2 ∧ w2.heap[W0.heap.size + 1]? = some (.stringIter s p2) ∧ Below W0.heap.size W0 w2 ∧ Hid (acc = Pat.quoteL (s.data.toList.take p2)) ∧ acc.length ≤ 2 * p2) (fun w2 => s.size - w2.iterPos (W0.heap.size + 1))
        case atStart =>
          refine ⟨0, [], Nat.zero_le _, (Lib.IsBuilderF.of (Lib.fresh_isBuilder 76 5 W0)).alloc _, ?_, ((Below.refl _ W0).alloc (Nat.le_refl _) _).alloc (by simp) _, Lib.hid rfl, by simp⟩
          have := World.iter_heap (W0.alloc (.cells #[.pointer none, .slice none 0 0] 76)) s 0
          simpa using this
        case round =>
          obtain ⟨p2, acc, hp2, hI, hit, hb2, HQ, hal⟩ := hrel
          have hsz : W0.heap.size + 1 < wr.heap.size := (Array.getElem?_eq_some_iff.1 hit).1
          by_cases hlt2 : p2 < s.size
          · have hasc2 := Pat.asciiL_at s HA.out p2 hlt2
            have hnx : ∀ ty, (Instr.next (.pointer (some ⟨W0.heap.size + 1, 0, none⟩)) true ty).run Tryz.prog wr = _ := fun ty => Lib.run_next_ascii_at wr (W0.heap.size + 1) s p2 ty hit hlt2 hasc2
            have hI2 := hI.iterAt hit (p2 + 1)
            have hit2 := Lib.iterAt_heap wr (W0.heap.size + 1) s p2 (p2 + 1) hit
            have hb3 := Lib.below_iterAt hb2 (k := W0.heap.size + 1) (by omega) s (p2 + 1)
            have hsz2 : W0.heap.size + 1 < (wr.iterAt (W0.heap.size + 1) s (p2 + 1)).heap.size := by rw [Lib.iterAt_size]; exact hsz
            have HM0 : Hid (wr.iterPos (W0.heap.size + 1) = p2) := Lib.hid (by simp only [World.iterPos, hit])
            generalize hWW : wr.iterAt (W0.heap.size + 1) s (p2 + 1) = W1 at *
            clear hWW
            have HR := Lib.hid (Pat.runeCells_ascii s[p2] hasc2)
            go_wp2_with fail
            all_goals first
              | (go_at_call 29
                 refine (writeByte_any W0.heap.size W0.heap.size _ 92 _ hI2 (by rw [Lib.byteCells_length]; omega) (by omega)).mono ?_
                 rintro e W2 ⟨rfl, hI3, b3, k3⟩
                 have hsz3 := b3.size
                 go_wp2_with fail
                 refine (writeRune_any W0.heap.size W0.heap.size _ _ (by omega) (by omega) _ hI3 (by simp only [List.length_append, Lib.byteCells_length, List.length_cons, List.length_nil]; omega) (by omega)).mono ?_
                 rintro e W3 ⟨rfl, hI4, b4, k4⟩
                 have hq : Pat.quotedB s[p2] = true := by first | exact Pat.quoted_42 ‹_› | exact Pat.quoted_63 ‹_› | exact Pat.quoted_91 ‹_› | exact Pat.quoted_92 ‹_›
                 have HQ2 := Lib.hid hq
                 have hit4 := k4.iter (k3.iter hit2 (by omega)) (by omega)
                 clear hq
                 go_wp2
                 go_roundw
                 case rel =>
                   refine ⟨p2 + 1, acc ++ [92, s[p2]], by omega, ?_, hit4, hb3.trans (b3.trans b4), Lib.hid ?_, by simp; omega⟩
                   · have e1 : Lib.byteCells (acc ++ [92, s[p2]]) = Lib.byteCells acc ++ [.int .u8 92] ++ Lib.runeCells (s[p2].toNat : Int) := by
                       rw [HR.out]; simp [Lib.byteCells]
                     rw [e1]; exact hI4
                   · rw [Pat.take_snoc s p2 hlt2, Pat.quote_snoc, ← HQ.out]; simp [Pat.quote1, HQ2.out]
                 case measure => rw [HM0.out]; simp only [World.iterPos, hit4]; omega)
              | (go_at_call 30
                 refine (writeRune_any W0.heap.size W0.heap.size _ _ (by omega) (by omega) _ hI2 (by rw [Lib.byteCells_length]; omega) (by omega)).mono ?_
                 rintro e W3 ⟨rfl, hI4, b4, k4⟩
                 have HQ2 := Lib.hid (Pat.quoted_no (c := s[p2]) ‹_› ‹_› ‹_› ‹_›)
                 have hit4 := k4.iter hit2 (by omega)
                 go_wp2
                 go_roundw
                 case rel =>
                   refine ⟨p2 + 1, acc ++ [s[p2]], by omega, ?_, hit4, hb3.trans b4, Lib.hid ?_, by simp; omega⟩
                   · rw [Lib.byteCells_append, ← HR.out]; exact hI4
                   · rw [Pat.take_snoc s p2 hlt2, Pat.quote_snoc, ← HQ.out]; simp [Pat.quote1, HQ2.out]
                 case measure => rw [HM0.out]; simp only [World.iterPos, hit4]; omega)
          · have hnx : ∀ ty, (Instr.next (.pointer (some ⟨W0.heap.size + 1, 0, none⟩)) true ty).run Tryz.prog wr = _ := fun ty => Lib.run_next_end_at wr (W0.heap.size + 1) s p2 ty hit hlt2
            go_wp2_with (go_at_call 24; refine (Tryz.Builder_String_any_k W0.heap.size W0.heap.size acc _ hI (by omega)).mono ?_)
            rintro e W1 ⟨rfl, _, b1, _⟩
            go_wp2
            rw [Exit.noGoto_ret]
            go_ret
            rw [HQ.out, Pat.take_all s p2 (by omega)]
            exact ⟨rfl, hbw2.trans ((hb2.trans b1).mono (by omega))⟩
    · have hnx : ∀ ty, (Instr.next (.pointer (some ⟨w.heap.size, 0, none⟩)) true ty).run Tryz.prog wr = _ := fun ty => Lib.run_next_end_at wr w.heap.size s pos ty hit hlt
      go_wp2
      rw [Exit.noGoto_ret]
      go_ret
      exact ⟨by rw [Pat.quoteL_plain _ (by have := H.out; rwa [Pat.take_all s pos (by omega)] at this), Pat.bytes_eta]; rfl, hbw⟩
end Go.Proofs.YtpfgmiocdgfniaaGreatFmt

namespace Go.Proofs.YtpfgmiocdgfniaaGreatFmt
open Go.RowKit
theorem quoteMeta_ascii (s : ByteArray) (w : World) (hs : s.size ≤ 35184372088832) (ha : Pat.asciiL s.data.toList = true) :
    Calls Tryz.prog 8 #[.string s] w fun e w' => e = .returned (.string ⟨(Pat.quoteL s.data.toList).toArray⟩) ∧ Below w.heap.size w w' := by
  have HA := Lib.hid ha
  clear ha
  go_enter Tryz.func8, Tryz.ntmps8
  go_wp2_with fail
  refine (pquoteMeta_ascii s _ _ hs HA.out).mono ?_
  rintro e w' ⟨rfl, hb⟩
  go_wp2_with fail
  go_ret
  exact ⟨rfl, hb⟩
theorem quotes_any (w : World) :
    Calls Tryz.prog 11 #[] w fun e w' => e = .returned (.bool true) ∧ Below w.heap.size w w' := by
  go_enter Tryz.func11, Tryz.ntmps11
  go_wp2_with fail
  refine (quoteMeta_ascii _ _ (by decide) (by decide)).mono ?_
  rintro e w' ⟨rfl, hb⟩
  rw [show Pat.quoteL (ByteArray.mk #[42]).data.toList = [92, 42] from by decide]
  go_wp2_with fail
  go_ret
  exact ⟨ret_bool (by decide), hb⟩
end Go.Proofs.YtpfgmiocdgfniaaGreatFmt

namespace Go.Proofs.YtpfgmiocdgfniaaGreatFmt
open Go.RowKit Go.Extern
open Re (G Ato Su CI gl sq fnd asc)
def quoteQ (l : List UInt8) : Q := l.foldr (fun c r => .ch (Pat.quotedB c) c.toNat r) .nil
theorem quoteQ_pr : ∀ l : List UInt8, prQ (quoteQ l) = (Pat.quoteL l).map UInt8.toNat
  | [] => rfl
  | c :: l => by
    have ih := quoteQ_pr l
    simp only [quoteQ, List.foldr_cons, prQ, Pat.quoteL, List.flatMap_cons, List.map_append] at ih ⊢
    rw [ih]
    congr 1
    unfold prC Pat.quote1
    cases Pat.quotedB c <;> rfl
theorem quoteQ_negs : ∀ (l : List UInt8) (p : Nat), negs p (quoteQ l) = []
  | [], p => rfl
  | c :: l, p => quoteQ_negs l _
theorem quoteQ_ok : ∀ l : List UInt8, (∀ c ∈ l, 1 ≤ c.toNat ∧ c.toNat < 128) → okQ mdE true (quoteQ l) = true
  | [], _ => rfl
  | c :: l, h => by
    have ih := quoteQ_ok l (fun x hx => h x (List.mem_cons_of_mem _ hx))
    have hc := h c (by simp)
    simp only [quoteQ, List.foldr_cons] at ih ⊢
    simp only [okQ, ih, Bool.and_true, Bool.and_eq_true, decide_eq_true_eq, Bool.or_eq_true]
    refine ⟨⟨hc.1, hc.2⟩, ?_⟩
    cases hq : Pat.quotedB c with
    | true => exact .inl rfl
    | false =>
      right
      simp only [Pat.quotedB, Bool.or_eq_false_iff, beq_eq_false_iff_ne] at hq
      simp [hq, mdE]
theorem quoteQ_sem (s : List UInt8) : ∀ (l : List UInt8) (i j : Nat), i ≤ s.length → ((semQ s false (quoteQ l)).seq i j ↔ (s.drop i).take l.length = l ∧ j = i + l.length)
  | [], i, j, _ => by
    show i = j ↔ _
    simp; exact eq_comm
  | c :: l, i, j, hi => by
    show (byteR s (chT false c.toNat) i ∧ (semQ s false (quoteQ l)).seq (i + 1) j) ↔ _
    constructor
    · rintro ⟨⟨x, hx, hy⟩, h⟩
      have hl := (List.getElem?_eq_some_iff.1 hx).1
      obtain ⟨h1, h2⟩ := (quoteQ_sem s l (i + 1) j (by omega)).1 h
      have hxc : x = c := by
        simp [chT] at hy
        exact UInt8.toNat.inj hy
      have he : s[i] = c := by
        rw [List.getElem?_eq_getElem hl] at hx
        rw [← hxc]; exact Option.some.inj hx
      refine ⟨?_, by simp only [List.length_cons]; omega⟩
      rw [List.drop_eq_getElem_cons hl, he]
      simp [h1]
    · rintro ⟨h1, h2⟩
      have hl : i < s.length := by
        rcases Nat.lt_or_ge i s.length with h | h
        · exact h
        · rw [List.drop_eq_nil_of_le h] at h1; simp at h1
      rw [List.drop_eq_getElem_cons hl] at h1
      simp only [List.length_cons, List.take_succ_cons, List.cons.injEq] at h1
      exact ⟨⟨s[i], List.getElem?_eq_getElem hl, by simp [chT, h1.1]⟩, (quoteQ_sem s l (i + 1) j (by omega)).2 ⟨h1.2, by simp only [List.length_cons] at h2; omega⟩⟩
theorem quoteQ_noC : ∀ (l : List UInt8) (z : G) (b : Bool), noC z = true → noC (gq mdE z true (quoteQ l) 0 b) = true
  | [], z, b, h => h
  | c :: l, z, b, h => by
    have ih := quoteQ_noC l z (c.toNat == 47) h
    show noC (.ato (gCh c.toNat) .one (gq mdE z true (quoteQ l) 0 (c.toNat == 47))) = true
    have hg : gCh c.toNat = .esc c.toNat ∨ gCh c.toNat = .lit c.toNat := by unfold gCh; split <;> simp
    simp only [noC, ih, Bool.and_true]
    rcases hg with e | e <;> rw [e]
theorem quote_reg (l : List UInt8) (h : ∀ c ∈ l, 1 ≤ c.toNat ∧ c.toNat < 128) :
    ∃ r : G, regexpM mdE true false false ⟨(Pat.quoteL l).toArray⟩ = .ok (bs (Re.pr r)) ∧ r.ok = true ∧ noC r = true ∧ (Re.pr r).length ≤ 20 * (Pat.quoteL l).length + 10 ∧ ∀ t, asc t → fnd t r = decide (l = t) := by
  have hn : nums ⟨(Pat.quoteL l).toArray⟩ = prQ (quoteQ l) := by rw [quoteQ_pr]; simp [nums]
  have hok := quoteQ_ok l h
  refine ⟨gFull mdE true false false (quoteQ l), by rw [reg_q mdE true false false _ _ hn hok (.inl rfl), if_pos (quoteQ_negs l 0)], (full_ok mdE true false false _ hok).1, quoteQ_noC l (.ato .fin .one .done) true rfl, ?_, fun t ht => ?_⟩
  · have := full_len mdE true false false (quoteQ l)
    rw [← hn, nums_len, Pat.size_mk] at this; exact this
  rw [Bool.eq_iff_iff, fnd_whole t ht mdE rfl false false (quoteQ l) hok, quoteQ_sem t l 0 t.length (Nat.zero_le _), decide_eq_true_iff, List.drop_zero, Nat.zero_add]
  constructor
  · rintro ⟨h1, h2⟩
    rw [List.take_of_length_le (by omega)] at h1
    exact h1.symm
  · rintro rfl
    exact ⟨List.take_length, rfl⟩
end Go.Proofs.YtpfgmiocdgfniaaGreatFmt
