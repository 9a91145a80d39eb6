/- Joined by pack.py: LawN, LaidO. -/
import Derived.Test.YtonifkkdokaooaaFmtP47
import Derived.Test.YtonifkkdokaooaaFmtP46
import Derived.Test.YtonifkkdokaooaaFmtP49
/- Walk: laws.FnGroupNotTwo. -/
namespace Go.Proofs.YtonifkkdokaooaaFmt
open Go.RowKit Go.Extern.Stop Go.Stop Go.Extern
set_option linter.unusedVariables false

/-- what stands at the beginning of a law that reads no regular expression -/
structure LW0 (F : Interp) (pe : Addr) (w : World) : Prop where
  T : Tabs w
  E : w.cell? ⟨gE, 0, none⟩ = some (eofV pe)
  F : F.answers w.tape
  gB : GG w.heap.size
  hT : w.cell? ⟨gT, 0, none⟩ = some hT0
theorem impl_any0 (F : Interp) (s : ByteArray) (pe : Addr) (m : Int) (md : Md) (ent nc sho : Bool) (w : World) (hm : Mo m md) (hx : Mx m ent nc sho) (h : LW0 F pe w) (hs : s.size ≤ 4398046511104) :
    Calls Tryf.prog 16 #[.string s, .int .u64 m] w (ImplPost (regexpM md ent nc sho s) w) := by
  have hp : RPre F s pe w := ⟨h.T, h.E, h.F, hs, h.gB⟩
  cases hr : regexpM md ent nc sho s with
  | ok t => exact impl_ok F s pe m md ent nc sho w hm hx hp t hr
  | neg gs => exact impl_neg F s pe m md ent nc sho w hm hx hp h.hT gs hr
  | syn => exact impl_syn F s pe m md ent nc sho w hm hx hp h.hT hr
/-- bytes as they are -/
def chs (l : List Nat) (r : Q) : Q := l.foldr (fun c r => .ch false c r) r
theorem chs_pr (r : Q) : ∀ l : List Nat, prQ (chs l r) = l ++ prQ r
  | [] => rfl
  | c :: l => by
    have := chs_pr r l
    simp only [chs, List.foldr_cons, prQ, prC] at this ⊢
    rw [this]; rfl
theorem chs_negs (r : Q) : ∀ (l : List Nat) (p : Nat), negs p (chs l r) = negs (p + l.length) r
  | [], p => rfl
  | c :: l, p => by
    have := chs_negs r l (p + 1)
    simp only [chs, List.foldr_cons, negs, prC] at this ⊢
    show negs (p + 1) _ = _
    rw [this]; congr 1; simp; omega
theorem chs_word (md : Md) (top : Bool) (r : Q) (hr : okQ md top r = true) : ∀ l : List Nat, (∀ c ∈ l, Pat.wordI (c : Nat) = true) → okQ md top (chs l r) = true
  | [], _ => hr
  | c :: l, h => by
    have ih := chs_word md top r hr l (fun x hx => h x (by simp [hx]))
    have hc : Pat.wordI (c : Nat) = true := h c (by simp)
    have hs : ∀ c, c < 128 → Pat.wordI (c : Nat) = true → 1 ≤ c ∧ c ≠ 42 ∧ c ≠ 63 ∧ c ≠ 91 ∧ c ≠ 92 ∧ isOpB c = false := by decide
    have hl : c < 128 := by simp [Pat.wordI, Pat.letterI] at hc; omega
    obtain ⟨a1, a2, a3, a4, a5, a6⟩ := hs c hl hc
    simp only [chs, List.foldr_cons] at ih ⊢
    simp [okQ, ih, a1, a2, a3, a4, a5, a6, hl]
theorem words_n (s : ByteArray) (h : Pat.wordL s.data.toList = true) : ∀ c ∈ nums s, Pat.wordI (c : Nat) = true := by
  intro c hc
  obtain ⟨b, hb, rfl⟩ := List.mem_map.1 hc
  exact List.all_eq_true.1 h b hb
theorem nums_app (a b : ByteArray) : nums (a ++ b) = nums a ++ nums b := by simp [nums, ByteArray.data_append]
theorem two_nots (a b c : ByteArray) (ha : Pat.wordL a.data.toList = true) (hb : Pat.wordL b.data.toList = true) (hc : Pat.wordL c.data.toList = true) :
    ∃ P : ByteArray, ByteArray.mk #[33, 40] ++ a ++ ByteArray.mk #[41] ++ b ++ ByteArray.mk #[33, 40] ++ c ++ ByteArray.mk #[41] = P ∧ P.size = a.size + b.size + c.size + 6 ∧
      regexpM mdX true false false P = .neg [(0, a.size + 3), (a.size + 3 + b.size, P.size)] := by
  refine ⟨_, rfl, ?_, ?_⟩
  · simp only [ByteArray.size_append]
    show 2 + a.size + 1 + b.size + 2 + c.size + 1 = _
    omega
  · have hsz : (ByteArray.mk #[33, 40] ++ a ++ ByteArray.mk #[41] ++ b ++ ByteArray.mk #[33, 40] ++ c ++ ByteArray.mk #[41]).size = a.size + b.size + c.size + 6 := by
      simp only [ByteArray.size_append]
      show 2 + a.size + 1 + b.size + 2 + c.size + 1 = _
      omega
    rw [reg_q mdX true false false _ (.grp 33 (chs (nums a) .nil) (chs (nums b) (.grp 33 (chs (nums c) .nil) .nil))) ?_ ?_ (.inl rfl)]
    · have e : negs 0 (.grp 33 (chs (nums a) .nil) (chs (nums b) (.grp 33 (chs (nums c) .nil) .nil))) = [(0, a.size + 3), (a.size + 3 + b.size, a.size + b.size + c.size + 6)] := by
        simp only [negs, chs_negs, chs_pr, prQ, List.append_nil, nums_len, if_true]
        simp only [List.singleton_append, Nat.zero_add]
        congr 3
        omega
      rw [e, hsz]
      simp
    · have e1 : nums (ByteArray.mk #[33, 40]) = [33, 40] := rfl
      have e2 : nums (ByteArray.mk #[41]) = [41] := rfl
      simp [nums_app, e1, e2, prQ, chs_pr]
    · have wa := chs_word mdX false .nil rfl (nums a) (words_n a ha)
      have wc := chs_word mdX false .nil rfl (nums c) (words_n c hc)
      have w2 : okQ mdX true (.grp 33 (chs (nums c) .nil) .nil) = true := by simp [okQ, wc, show mdX.ext = true from rfl]
      have wb := chs_word mdX true _ w2 (nums b) (words_n b hb)
      simp [okQ, wa, wb, show mdX.ext = true from rfl]
/-- the two groups in memory -/
theorem two_cells {w : World} {B n : Nat} {gv : Value} {x y z : Nat} (h : w.ownsRow B tIG 2 gv 2 (grCells [(0, x), (y, z)])) :
    ∃ g cap, gv = .slice (some ⟨g, 0, none⟩) 2 cap ∧ w.cell? ⟨g, 0, none⟩ = some (.int .i64 0) ∧ w.cell? ⟨g, 1, none⟩ = some (.int .i64 (x : Int)) ∧ w.cell? ⟨g, 2, none⟩ = some (.int .i64 (y : Int)) ∧ w.cell? ⟨g, 3, none⟩ = some (.int .i64 (z : Int)) := by
  rcases h.2 with ⟨_, h0⟩ | ⟨g, cap, cur, rfl, hb, hg, hc1, hc2, hsz, ht⟩
  · simp at h0
  · refine ⟨g, cap, rfl, ?_⟩
    have key : ∀ k v, (grCells [(0, x), (y, z)])[k]? = some v → w.cell? ⟨g, k, none⟩ = some v := by
      intro k v hk
      rw [Lib.cell_of_heap hg]
      rw [← ht, List.getElem?_take] at hk
      split at hk
      · simpa using hk
      · cases hk
    exact ⟨key 0 _ rfl, key 1 _ rfl, key 2 _ rfl, key 3 _ rfl⟩
set_option maxHeartbeats 4000000 in
set_option maxRecDepth 100000 in
theorem walk_FnGroupNotTwo (F : Interp) (pe : Addr) (a b c : ByteArray) (w : World) (h : LW0 F pe w) (ha : a.size ≤ maxLen) (hb : b.size ≤ maxLen) (hc : c.size ≤ maxLen) :
    Calls Tryf.prog 15 #[.string a, .string b, .string c] w fun e w' => e = .returned (.bool true) ∧ Below w.heap.size w w' := by
  have hwa := wordOk_any a w ha
  have hwb := wordOk_any b w hb
  have hwc := wordOk_any c w hc
  unfold maxLen at ha hb hc
  by_cases h1 : a.size ≤ 2147483647
  · have d1 : decide ((2147483647 : Int) < (a.size : Int)) = false := by simp; omega
    by_cases h2 : b.size ≤ 2147483647
    · have d2 : decide ((2147483647 : Int) < (b.size : Int)) = false := by simp; omega
      by_cases h3 : c.size ≤ 2147483647
      · have d3 : decide ((2147483647 : Int) < (c.size : Int)) = false := by simp; omega
        cases wa : Pat.wordL a.data.toList with
        | false =>
          rw [wa] at hwa
          have HA := Lib.hid hwa
          clear hwa hwb hwc wa h
          go_enter Tryf.func15, Tryf.ntmps15
          go_wp2_with fail
          refine HA.out.mono ?_
          rintro e w' ⟨rfl, rfl⟩
          go_wp2_with fail
          go_ret
          exact ⟨rfl, Below.refl _ _⟩
        | true =>
          rw [wa] at hwa
          have HA := Lib.hid hwa
          cases wb : Pat.wordL b.data.toList with
          | false =>
            rw [wb] at hwb
            have HB := Lib.hid hwb
            clear hwa hwb hwc wa wb h
            go_enter Tryf.func15, Tryf.ntmps15
            go_wp2_with fail
            refine HA.out.mono ?_
            rintro e w' ⟨rfl, rfl⟩
            go_wp2_with fail
            refine HB.out.mono ?_
            rintro e w' ⟨rfl, rfl⟩
            go_wp2_with fail
            go_ret
            exact ⟨rfl, Below.refl _ _⟩
          | true =>
            rw [wb] at hwb
            have HB := Lib.hid hwb
            cases wc : Pat.wordL c.data.toList with
            | false =>
              rw [wc] at hwc
              have HC := Lib.hid hwc
              clear hwa hwb hwc wa wb wc h
              go_enter Tryf.func15, Tryf.ntmps15
              go_wp2_with fail
              refine HA.out.mono ?_
              rintro e w' ⟨rfl, rfl⟩
              go_wp2_with fail
              refine HB.out.mono ?_
              rintro e w' ⟨rfl, rfl⟩
              go_wp2_with fail
              refine HC.out.mono ?_
              rintro e w' ⟨rfl, rfl⟩
              go_wp2_with fail
              go_ret
              exact ⟨rfl, Below.refl _ _⟩
            | true =>
              rw [wc] at hwc
              have HC := Lib.hid hwc
              obtain ⟨P, hP, hPs, hr⟩ := two_nots a b c wa wb wc
              have HI0 := impl_any0 F P pe 68 mdX true false false w moX mxX h (by omega)
              rw [hr] at HI0
              have HI := Lib.hid HI0
              have hP9 : P.size ≤ 9223372036854775807 := by omega
              clear hwa hwb hwc wa wb wc h hPs hr HI0
              go_enter Tryf.func15, Tryf.ntmps15
              go_wp2_with fail
              refine HA.out.mono ?_
              rintro e w' ⟨rfl, rfl⟩
              go_wp2_with fail
              refine HB.out.mono ?_
              rintro e w' ⟨rfl, rfl⟩
              go_wp2_with fail
              refine HC.out.mono ?_
              rintro e w' ⟨rfl, rfl⟩
              go_wp2_with fail
              refine HI.out.mono ?_
              rintro e w1 ⟨hbl, gv, rfl, ho⟩
              obtain ⟨g, cap, rfl, g0, g1, g2, g3⟩ := two_cells (n := 0) ho
              have HB2 := Lib.hid hbl
              clear hbl ho HI HA HB HC hP
              go_wp2_with fail
              go_ret
              exact ⟨rfl, HB2.out⟩
      · have d3 : decide ((2147483647 : Int) < (c.size : Int)) = true := by simp; omega
        clear h hwa hwb hwc
        go_enter Tryf.func15, Tryf.ntmps15
        go_wp2
        go_ret
        exact ⟨rfl, Below.refl _ _⟩
    · have d2 : decide ((2147483647 : Int) < (b.size : Int)) = true := by simp; omega
      clear h hwa hwb hwc
      go_enter Tryf.func15, Tryf.ntmps15
      go_wp2
      go_ret
      exact ⟨rfl, Below.refl _ _⟩
  · have d1 : decide ((2147483647 : Int) < (a.size : Int)) = true := by simp; omega
    clear h hwa hwb hwc
    go_enter Tryf.func15, Tryf.ntmps15
    go_wp2
    go_ret
    exact ⟨rfl, Below.refl _ _⟩
end Go.Proofs.YtonifkkdokaooaaFmt

/- The listed variables of a law that reads no regular expression: what they give a walk; the witness' world. -/
namespace Go.Proofs.YtonifkkdokaooaaFmt
open Go.ChangeShapes Go.WideShapes Go.ChangeAt Go.RowKit Go.Lib
set_option linter.unusedVariables false

noncomputable abbrev laidAll0 : List (String × DataW Unit) := [("unicode/utf8.acceptRanges", Rows.laid_unicode_utf8_acceptRanges), ("errors.errorType", Rows.laid_errors_errorType), ("io.EOF", Rows.laid_io_EOF), ("unicode/utf8.first", Rows.laid_unicode_utf8_first)]
noncomputable abbrev laidData0 : List (String × DataW Unit) := [("unicode/utf8.acceptRanges", Rows.laid_unicode_utf8_acceptRanges), ("io.EOF", Rows.laid_io_EOF), ("unicode/utf8.first", Rows.laid_unicode_utf8_first)]
theorem laid_parts0 {W : World} (h : laidMetH Tryf.prog laidAll0 W) : laidMet Tryf.prog laidData0 W ∧ handlesMet Tryf.prog [("errors.errorType", Rows.laid_errors_errorType)] W := h
theorem tabs_of0 {W : World} (h : laidMet Tryf.prog laidData0 W) : Tabs W :=
  utf8Tabs_of_reads (ρ := Tryf.lays260_ren) { Tryf.lays260 with } u8X (Pinned.utf8First_eq ▸ (Lib.laidMet.reads h (n := "unicode/utf8.first") (d := Rows.laid_unicode_utf8_first) (by simp [laidData0]))) (accept_eq ▸ (Lib.laidMet.reads h (n := "unicode/utf8.acceptRanges") (d := Rows.laid_unicode_utf8_acceptRanges) (by simp [laidData0])))
/-- what the condition gives a walk -/
theorem lw_of0 {F : Stop.Interp} {W : World} (h : laidMetH Tryf.prog laidAll0 W) (hF : F.answers W.tape) : ∃ pe, LW0 F pe W := by
  obtain ⟨h1, h2⟩ := laid_parts0 h
  obtain ⟨a, s, hv, hc, _, _⟩ := laid_sentinel (g := gE) h1.tail (by kernel_rfl) (by kernel_rfl) Tryf.underlying41 rowES Tryf.underlying142 Tryf.underlying144 rfl rfl Tryf.underlying9 (by kernel_rfl) (by kernel_rfl)
  have hE : W.cell? ⟨gE, 0, none⟩ = some (eofV a) := by simpa using World.var?_cell (by kernel_rfl) hv 0
  have hT := handle_cell h2
  have hTb := tabs_of0 h1
  have l1 := World.block_lt_of_cell? _ _ hE
  have l2 := World.block_lt_of_cell? _ _ (hTb.1 0 (by decide))
  have l3 := World.block_lt_of_cell? _ _ (hTb.2 0 (by decide)).1
  exact ⟨a, hTb, hE, hF, ⟨l1, by first | exact l2 | exact l3, by first | exact l3 | exact l2⟩, hT⟩
set_option maxRecDepth 100000 in
theorem laidW_met0 (os : Os) (args : Array Value) : laidMetH Tryf.prog laidAll0 ((laidW os).forCall (fun _ _ => 0) ⟨#[], args, []⟩).memory :=
  laidMetH_of_parts (l := laidAll0) (laidMet_of_run' 8 (by kernel_rfl) (by kernel_rfl)) (by kernel_rfl)
end Go.Proofs.YtonifkkdokaooaaFmt
