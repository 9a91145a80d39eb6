/- The walks of the laws FnQuoteRead, FnQuoteMeta, FnQuotePlain, FnQuoteLength, FnQuoteJoin, FnQuoteTwice. -/
import Derived.Test.YtmgdljhamplgiaaQuoteB
import Derived.Below
namespace Go.Proofs.Ytmgdljhamplgiaa
open Go.RowKit
set_option linter.unusedVariables false

theorem below_step {w a b : World} (h : Below w.heap.size w a) (k : Below a.heap.size a b) : Below w.heap.size w b := h.trans (k.mono h.size)

set_option maxHeartbeats 1000000 in
theorem walk_FnQuoteRead (s : ByteArray) (w : World) (hs : s.size ≤ maxLen) :
    Calls Try.prog 9 #[.string s] w fun e w' => e = .returned (.bool true) ∧ Below w.heap.size w w' := by
  have hasc := ascii_any s w hs
  unfold maxLen at hs
  by_cases h1 : s.size ≤ 2147483647
  · cases h3 : Pat.asciiL s.data.toList
    · rw [h3] at hasc
      have HA := Lib.hid hasc
      clear hasc h3
      go_enter Try.func9, Try.ntmps9
      go_wp2_with fail
      refine (HA.out).mono ?_; rintro e w' ⟨rfl, rfl⟩
      go_wp2_with fail
      go_ret
      exact ⟨rfl, Below.refl _ _⟩
    · rw [h3] at hasc
      have HA := Lib.hid hasc
      have H3 := Lib.hid h3
      have hl := Pat.quoteL_length s.data.toList
      rw [Pat.size_toList] at hl
      have hz1 : (Pat.quoteL s.data.toList).length < 9223372036854775806 := by omega
      have hz2 : (Pat.quoteL s.data.toList).length ≤ 35184372088832 := by omega
      have hu := unquoted_any ⟨(Pat.quoteL s.data.toList).toArray⟩
      rw [Pat.data_mk, Pat.size_mk] at hu
      rw [show Pat.unqT (Pat.quoteL s.data.toList) = s.data.toList from by simp [Pat.unqT, Pat.unq_quote], show Pat.unqB (Pat.quoteL s.data.toList) = true from by simp [Pat.unqB, Pat.unq_quote]] at hu
      rw [Pat.bytes_eta] at hu
      have HU := Lib.hid hu
      clear hasc h3 hu
      go_enter Try.func9, Try.ntmps9
      go_wp2_with fail
      refine (HA.out).mono ?_; rintro e w' ⟨rfl, rfl⟩
      go_wp2_with fail
      refine (quoteMeta_ascii s _ (by omega) H3.out).mono ?_; rintro e w1 ⟨rfl, hb1⟩
      go_wp2_with fail
      refine (HU.out _ hz1).mono ?_; rintro e w' ⟨rfl, rfl⟩
      go_wp2_with fail
      refine (quotes_any _).mono ?_; rintro e w2 ⟨rfl, hb2⟩
      go_wp2_with fail
      go_ret
      exact ⟨rfl, below_step hb1 hb2⟩
  · clear hasc
    go_enter Try.func9, Try.ntmps9
    go_wp2_with fail
    go_ret
    exact ⟨rfl, Below.refl _ _⟩

set_option maxHeartbeats 1000000 in
theorem walk_FnQuoteTwice (s : ByteArray) (w : World) (hs : s.size ≤ maxLen) :
    Calls Try.prog 10 #[.string s] w fun e w' => e = .returned (.bool true) ∧ Below w.heap.size w w' := by
  have hasc := ascii_any s w hs
  unfold maxLen at hs
  by_cases h1 : s.size ≤ 2147483647
  · cases h3 : Pat.asciiL s.data.toList
    · rw [h3] at hasc
      have HA := Lib.hid hasc
      clear hasc h3
      go_enter Try.func10, Try.ntmps10
      go_wp2_with fail
      refine (HA.out).mono ?_; rintro e w' ⟨rfl, rfl⟩
      go_wp2_with fail
      go_ret
      exact ⟨rfl, Below.refl _ _⟩
    · rw [h3] at hasc
      have HA := Lib.hid hasc
      have H3 := Lib.hid h3
      have hl := Pat.quoteL_length s.data.toList
      rw [Pat.size_toList] at hl
      have hz1 : (Pat.quoteL s.data.toList).length < 9223372036854775806 := by omega
      have hz2 : (Pat.quoteL s.data.toList).length ≤ 35184372088832 := by omega
      have hl2 := Pat.quoteL_length (Pat.quoteL s.data.toList)
      have hz3 : (Pat.quoteL (Pat.quoteL s.data.toList)).length < 9223372036854775806 := by omega
      have hq2 := quoteMeta_ascii ⟨(Pat.quoteL s.data.toList).toArray⟩
      rw [Pat.data_mk, Pat.size_mk] at hq2
      have hu := unquoted_any ⟨(Pat.quoteL (Pat.quoteL s.data.toList)).toArray⟩
      rw [Pat.data_mk, Pat.size_mk] at hu
      rw [show Pat.unqT (Pat.quoteL (Pat.quoteL s.data.toList)) = Pat.quoteL s.data.toList from by simp [Pat.unqT, Pat.unq_quote], show Pat.unqB (Pat.quoteL (Pat.quoteL s.data.toList)) = true from by simp [Pat.unqB, Pat.unq_quote]] at hu
      have HU := Lib.hid hu
      have HQ := Lib.hid hq2
      clear hasc h3 hu hq2
      go_enter Try.func10, Try.ntmps10
      go_wp2_with fail
      refine (HA.out).mono ?_; rintro e w' ⟨rfl, rfl⟩
      go_wp2_with fail
      refine (quoteMeta_ascii s _ (by omega) H3.out).mono ?_; rintro e w1 ⟨rfl, hb1⟩
      go_wp2_with fail
      refine (HQ.out _ hz2 (Pat.ascii_quote _ H3.out)).mono ?_; rintro e w2 ⟨rfl, hb2⟩
      go_wp2_with fail
      refine (HU.out _ hz3).mono ?_; rintro e w' ⟨rfl, rfl⟩
      go_wp2_with fail
      refine (quotes_any _).mono ?_; rintro e w3 ⟨rfl, hb3⟩
      go_wp2_with fail
      go_ret
      exact ⟨rfl, below_step (below_step hb1 hb2) hb3⟩
  · clear hasc
    go_enter Try.func10, Try.ntmps10
    go_wp2_with fail
    go_ret
    exact ⟨rfl, Below.refl _ _⟩

set_option maxHeartbeats 1000000 in
theorem walk_FnQuoteMeta (s : ByteArray) (w : World) (hs : s.size ≤ maxLen) :
    Calls Try.prog 11 #[.string s] w fun e w' => e = .returned (.bool true) ∧ Below w.heap.size w w' := by
  have hasc := ascii_any s w hs
  unfold maxLen at hs
  by_cases h1 : s.size ≤ 2147483647
  · cases h3 : Pat.asciiL s.data.toList
    · rw [h3] at hasc
      have HA := Lib.hid hasc
      clear hasc h3
      go_enter Try.func11, Try.ntmps11
      go_wp2_with fail
      refine (HA.out).mono ?_; rintro e w' ⟨rfl, rfl⟩
      go_wp2_with fail
      go_ret
      exact ⟨rfl, Below.refl _ _⟩
    · rw [h3] at hasc
      have HA := Lib.hid hasc
      have H3 := Lib.hid h3
      have hl := Pat.quoteL_length s.data.toList
      rw [Pat.size_toList] at hl
      have hz1 : (Pat.quoteL s.data.toList).length < 9223372036854775806 := by omega
      have hz2 : (Pat.quoteL s.data.toList).length ≤ 35184372088832 := by omega
      have hm := hasMeta_any ⟨(Pat.quoteL s.data.toList).toArray⟩
      rw [Pat.data_mk, Pat.size_mk, Pat.meta_quote] at hm
      have HM := Lib.hid hm
      clear hasc h3 hm
      go_enter Try.func11, Try.ntmps11
      go_wp2_with fail
      refine (HA.out).mono ?_; rintro e w' ⟨rfl, rfl⟩
      go_wp2_with fail
      refine (quoteMeta_ascii s _ (by omega) H3.out).mono ?_; rintro e w1 ⟨rfl, hb1⟩
      go_wp2_with fail
      refine (HM.out _ hz1).mono ?_; rintro e w' ⟨rfl, rfl⟩
      go_wp2_with fail
      refine (quotes_any _).mono ?_; rintro e w2 ⟨rfl, hb2⟩
      go_wp2_with fail
      go_ret
      exact ⟨rfl, below_step hb1 hb2⟩
  · clear hasc
    go_enter Try.func11, Try.ntmps11
    go_wp2_with fail
    go_ret
    exact ⟨rfl, Below.refl _ _⟩

set_option maxHeartbeats 1000000 in
theorem walk_FnQuoteLength (s : ByteArray) (w : World) (hs : s.size ≤ maxLen) :
    Calls Try.prog 7 #[.string s] w fun e w' => e = .returned (.bool true) ∧ Below w.heap.size w w' := by
  have hasc := ascii_any s w hs
  unfold maxLen at hs
  by_cases h1 : s.size ≤ 2147483647
  · cases h3 : Pat.asciiL s.data.toList
    · rw [h3] at hasc
      have HA := Lib.hid hasc
      clear hasc h3
      go_enter Try.func7, Try.ntmps7
      go_wp2_with fail
      refine (HA.out).mono ?_; rintro e w' ⟨rfl, rfl⟩
      go_wp2_with fail
      go_ret
      exact ⟨rfl, Below.refl _ _⟩
    · rw [h3] at hasc
      have HA := Lib.hid hasc
      have H3 := Lib.hid h3
      have hl := Pat.quoteL_length s.data.toList
      rw [Pat.size_toList] at hl
      have hz1 : (Pat.quoteL s.data.toList).length < 9223372036854775806 := by omega
      have hz2 : (Pat.quoteL s.data.toList).length ≤ 35184372088832 := by omega
      have hsz := Pat.size_mk (Pat.quoteL s.data.toList)
      have hq := quoteMeta_ascii s
      have HQ := Lib.hid hq
      have hl1 : s.size ≤ (ByteArray.mk (Pat.quoteL s.data.toList).toArray).size := by omega
      have hl2 : (ByteArray.mk (Pat.quoteL s.data.toList).toArray).size ≤ 2 * s.size := by omega
      clear hasc h3 hq hsz hz1 hz2
      generalize ByteArray.mk (Pat.quoteL s.data.toList).toArray = q at *
      clear hl
      go_enter Try.func7, Try.ntmps7
      go_wp2_with fail
      refine (HA.out).mono ?_; rintro e w' ⟨rfl, rfl⟩
      go_wp2_with fail
      refine (HQ.out _ (by omega) H3.out).mono ?_; rintro e w1 ⟨rfl, hb1⟩
      go_wp2_with fail
      refine (quotes_any _).mono ?_; rintro e w2 ⟨rfl, hb2⟩
      go_wp2_with fail
      go_ret
      exact ⟨rfl, below_step hb1 hb2⟩
  · clear hasc
    go_enter Try.func7, Try.ntmps7
    go_wp2_with fail
    go_ret
    exact ⟨rfl, Below.refl _ _⟩

set_option maxHeartbeats 2000000 in
theorem walk_FnQuoteJoin (a b : ByteArray) (w : World) (ha : a.size ≤ maxLen) (hb : b.size ≤ maxLen) :
    Calls Try.prog 6 #[.string a, .string b] w fun e w' => e = .returned (.bool true) ∧ Below w.heap.size w w' := by
  have hwa := ascii_any a w ha
  have hwb := ascii_any b w hb
  unfold maxLen at ha hb
  by_cases h1 : a.size ≤ 2147483647
  · by_cases h2 : b.size ≤ 2147483647
    · cases h3 : Pat.asciiL a.data.toList
      · rw [h3] at hwa
        have Ha := Lib.hid hwa
        clear hwa hwb h3
        go_enter Try.func6, Try.ntmps6
        go_wp2_with fail
        refine (Ha.out).mono ?_; rintro e w' ⟨rfl, rfl⟩
        go_wp2_with fail
        go_ret
        exact ⟨rfl, Below.refl _ _⟩
      · rw [h3] at hwa
        have Ha := Lib.hid hwa
        have H3 := Lib.hid h3
        cases h4 : Pat.asciiL b.data.toList
        · rw [h4] at hwb
          have Hb := Lib.hid hwb
          clear hwa hwb h3 h4
          go_enter Try.func6, Try.ntmps6
          go_wp2_with fail
          refine (Ha.out).mono ?_; rintro e w' ⟨rfl, rfl⟩
          go_wp2_with fail
          refine (Hb.out).mono ?_; rintro e w' ⟨rfl, rfl⟩
          go_wp2_with fail
          go_ret
          exact ⟨rfl, Below.refl _ _⟩
        · rw [h4] at hwb
          have Hb := Lib.hid hwb
          have H4 := Lib.hid h4
          have hq := quoteMeta_ascii (a ++ b)
          rw [Pat.data_app, Pat.quoteL_append, ByteArray.size_append, Pat.mk_app] at hq
          have hqa := quoteMeta_ascii a
          have hqb := quoteMeta_ascii b
          have hla := Pat.quoteL_length a.data.toList
          have hlb := Pat.quoteL_length b.data.toList
          rw [← Pat.size_mk (Pat.quoteL _), Pat.size_toList] at hla hlb
          generalize ByteArray.mk (Pat.quoteL a.data.toList).toArray = qa at *
          generalize ByteArray.mk (Pat.quoteL b.data.toList).toArray = qb at *
          have HQA := Lib.hid hqa
          have HQB := Lib.hid hqb
          have hasc : Pat.asciiL (a.data.toList ++ b.data.toList) = true := by simp only [Pat.asciiL, List.all_append] at h3 h4 ⊢; simp [h3, h4]
          have HS := Lib.hid hasc
          have HQ := Lib.hid hq
          clear hwa hwb h3 h4 hq hasc hqa hqb
          go_enter Try.func6, Try.ntmps6
          go_wp2_with fail
          refine (Ha.out).mono ?_; rintro e w' ⟨rfl, rfl⟩
          go_wp2_with fail
          refine (Hb.out).mono ?_; rintro e w' ⟨rfl, rfl⟩
          go_wp2_with fail
          refine (HQ.out _ (by omega) HS.out).mono ?_; rintro e w1 ⟨rfl, hb1⟩
          go_wp2_with fail
          refine (HQA.out _ (by omega) H3.out).mono ?_; rintro e w2 ⟨rfl, hb2⟩
          go_wp2_with fail
          refine (HQB.out _ (by omega) H4.out).mono ?_; rintro e w3 ⟨rfl, hb3⟩
          go_wp2_with fail
          refine (quotes_any _).mono ?_; rintro e w4 ⟨rfl, hb4⟩
          go_wp2_with fail
          go_ret
          exact ⟨rfl, below_step (below_step (below_step hb1 hb2) hb3) hb4⟩
    · clear hwa hwb
      go_enter Try.func6, Try.ntmps6
      go_wp2_with fail
      go_ret
      exact ⟨rfl, Below.refl _ _⟩
  · clear hwa hwb
    go_enter Try.func6, Try.ntmps6
    go_wp2_with fail
    go_ret
    exact ⟨rfl, Below.refl _ _⟩
end Go.Proofs.Ytmgdljhamplgiaa
