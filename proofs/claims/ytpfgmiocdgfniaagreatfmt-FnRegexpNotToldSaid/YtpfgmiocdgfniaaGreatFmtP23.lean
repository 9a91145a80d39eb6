/- Joined by pack.py: RdC. -/
import Derived.Test.YtpfgmiocdgfniaaGreatFmtP21
import Derived.Shelf.Abstract
set_option linter.unusedVariables false
set_option maxHeartbeats 8000000
set_option maxRecDepth 1000000
namespace Go.Proofs.YtpfgmiocdgfniaaGreatFmt
open Go.RowKit
abbrev flV (fold dot : Bool) : Value := .agg #[.bool fold, .bool dot]
def setP (p : Nat → Bool) (fold neg : Bool) (c : Nat) : List Value := (List.range 128).map fun j => .bool (if j < c then (p j || (fold && p (Re.oth j))) != neg else false)
theorem setP_length (p : Nat → Bool) (fold neg : Bool) (c : Nat) : (setP p fold neg c).length = 128 := by simp [setP]
theorem setP_zero (p : Nat → Bool) (fold neg : Bool) : setP p fold neg 0 = noV := by
  unfold setP noV
  simp only [Nat.not_lt_zero, if_false]
  rfl
theorem setP_all (p : Nat → Bool) (fold neg : Bool) : setP p fold neg 128 = (Re.setL p fold neg).map .bool := by
  unfold setP Re.setL
  rw [List.map_map]
  apply List.map_congr_left
  intro j hj
  rw [List.mem_range] at hj
  simp [hj]
theorem setP_succ (p : Nat → Bool) (fold neg : Bool) (c : Nat) (hc : c < 128) : setP p fold neg (c + 1) = (setP p fold neg c).set c (.bool ((p c || (fold && p (Re.oth c))) != neg)) := by
  apply List.ext_getElem?
  intro j
  rw [List.getElem?_set]
  simp only [setP, List.length_map, List.length_range, List.getElem?_map]
  by_cases e : c = j
  · subst e
    rw [if_pos rfl, if_pos hc, List.getElem?_range hc]
    simp
  · rw [if_neg e]
    by_cases hj : j < 128
    · rw [List.getElem?_range hj]
      simp only [Option.map_some, Option.some.injEq, Value.bool.injEq]
      by_cases h : j < c
      · rw [if_pos h, if_pos (by omega)]
      · rw [if_neg h, if_neg (by omega)]
    · rw [List.getElem?_eq_none (by simp; omega)]; rfl
theorem oneC_setP (p : Nat → Bool) (fold neg : Bool) (c : Nat) : oneC (setP p fold neg c) := by
  intro v hv
  simp only [setP, List.mem_map] at hv
  obtain ⟨j, _, rfl⟩ := hv
  rfl
theorem oneC_map {l : List Bool} : oneC (l.map .bool) := by
  intro v hv
  rw [List.mem_map] at hv
  obtain ⟨b, _, rfl⟩ := hv
  rfl
theorem oth_lt {c : Nat} (h : c < 128) : Re.oth c < 128 := by unfold Re.oth; split <;> (try split) <;> omega
theorem reC_set {k : Int} {l : List Value} {kv : Value} {a b : Int} {c : Nat} {v : Value} (hl : l.length = 128) (hc : c < 128) : (reC k l kv a b).setIfInBounds (1 + c) v = reC k (l.set c v) kv a b := by
  apply Array.ext'
  simp only [reC, Array.toList_setIfInBounds]
  rw [Nat.add_comm 1 c, List.set_cons_succ, List.set_append_left _ _ (by omega)]
theorem reC_get {k : Int} {l : List Value} {kv : Value} {a b : Int} {c : Nat} (hl : l.length = 128) (hc : c < 128) : (reC k l kv a b)[1 + c]? = l[c]? := by
  simp only [reC, List.getElem?_toArray]
  rw [Nat.add_comm 1 c, List.getElem?_cons_succ, List.getElem?_append_left (by omega)]
theorem node_set (W : World) {k : Int} {l : List Value} {kv : Value} {a b : Int} {c : Nat} {v : Value} (hl : l.length = 128) (hc : c < 128) :
    (W.alloc (.cells (reC k l kv a b) tRe)).setCell ⟨W.heap.size, 1 + c, none⟩ v = W.alloc (.cells (reC k (l.set c v) kv a b) tRe) := by
  rw [setCell_eq_setRow _ _ _ _ _ _ _ (heap_alloc_new W _), World.setRow_alloc_new, reC_set hl hc]
theorem setOf_any (K : Nat) (cp : Value) (p : Nat → Bool) (fold dot neg : Bool) (w : World) (eK : ∀ args w, (callFunc K args).run Tryz.prog w = .ok (.enter K args) w)
    (hc : ∀ (c : Nat) (w' : World), c < 128 → Kp (fun _ => False) w w' → Calls Tryz.prog K #[.int .u8 c, cp] w' fun e w'' => e = .returned (.bool (p c)) ∧ w' = w'') :
    Calls Tryz.prog 56 #[.func (.func K) #[] #[cp], flV fold dot, .bool neg] w fun e w' => e = .returned (.agg (reC 1 ((Re.setL p fold neg).map .bool) (.slice none 0 0) 0 0)) ∧ Below w.heap.size w w' := by
  have hz := zeroRe
  have HC := Lib.hid hc
  clear hc
  go_enter Tryz.func56, Tryz.ntmps56
  go_wp2
  obtain ⟨W, hW⟩ : ∃ W, (w.alloc (.cells #[.bool fold, .bool dot] tFl)).alloc (.cells reZ tRe) = W := ⟨_, rfl⟩
  have hWs : W.heap.size = w.heap.size + 1 + 1 := by rw [← hW]; simp
  have kW : Kp (fun _ => False) w W := by rw [← hW]; exact ((Kp.refl _ _).alloc _).alloc _
  have f0 : W.cell? ⟨w.heap.size, 0, none⟩ = some (.bool fold) := by
    rw [← hW, World.cell?_alloc_lt _ _ ⟨w.heap.size, 0, none⟩ (by simp), World.cell?_alloc_at _ _ _ _ rfl]; rfl
  have hr : W.heap[w.heap.size + 1]? = some (.cells reZ tRe (0, 0)) := by
    rw [← hW]; have := heap_alloc_new (w.alloc (.cells #[.bool fold, .bool dot] tFl)) (.cells reZ tRe); simpa using this
  rw [hW, ← hWs, storeRe _ W.heap.size reZ (reZ.toList.set 0 (.int .i64 1)) (heap_alloc_new W _) rfl rfl (oneC_set2 1), reZ_set, World.setRow_alloc_new, ← setP_zero p fold neg]
  clear hW
  go_wp2
  go_loopg [8] 128 (fun g s8 wx => ∃ c : Nat, c + g = 128 ∧ s8 = .int .u8 c ∧ wx = W.alloc (.cells (reC 1 (setP p fold neg c) (.slice none 0 0) 0 0) tRe))
  case atStart => exact ⟨0, by omega, rfl, rfl⟩
  case round =>
    obtain ⟨c, hcg, rfl, rfl⟩ := hrel
    cases gk with
    | zero =>
      obtain rfl : c = 128 := by omega
      go_wp2
      refine wp_load_row tRe _ rfl W.heap.size (by simp only [hWs]; rfl) tRe _ (0, 0) _ (heap_alloc_new W _) Tryz.underlying31 rfl (by rw [sizeRe, reC_size (setP_length _ _ _ _)]) ?_
      go_wp2
      have hrs : (W.alloc (.cells (reC 1 (setP p fold neg 128) (.slice none 0 0) 0 0) tRe)).heap[w.heap.size + 1]? = some (.cells reZ tRe (0, 0)) := by rw [Lib.alloc_old _ _ _ (by omega)]; exact hr
      have hon : oneC (reC 1 (setP p fold neg 128) (.slice none 0 0) 0 0).toList := oneC_reC (oneC_setP _ _ _ _) rfl
      have hsz := reC_size (k := 1) (kv := .slice none 0 0) (l := 0) (m := 0) (setP_length p fold neg 128)
      rw [storeRe _ (w.heap.size + 1) reZ _ hrs rfl (by rw [Array.length_toList, hsz]) hon]
      go_wp2
      refine bodyPost_ret (v := .agg (reC 1 ((Re.setL p fold neg).map .bool) (.slice none 0 0) 0 0)) (resultRe Tryz.results56 _ _ (w.heap.size + 1) _ rfl (setRow_heap _ _ reZ _ tRe (0, 0) hrs) (by rw [← setP_all]; exact hsz)) rfl ⟨rfl, ?_⟩
      exact ((kW.alloc _).setRow (.inr (by omega)) _).below (Nat.le_refl _) (fun _ _ h => h)
    | succ g =>
      have hc1 : c < 128 := by omega
      obtain ⟨V, hV⟩ : ∃ V, W.alloc (.cells (reC 1 (setP p fold neg c) (.slice none 0 0) 0 0) tRe) = V := ⟨_, rfl⟩
      have hnd := heap_alloc_new W (.cells (reC 1 (setP p fold neg c) (.slice none 0 0) 0 0) tRe)
      have kV : Kp (fun _ => False) w V := by rw [← hV]; exact kW.alloc _
      have g0 : V.cell? ⟨w.heap.size, 0, none⟩ = some (.bool fold) := by
        rw [← hV, World.cell?_alloc_lt _ _ ⟨w.heap.size, 0, none⟩ (by show w.heap.size < W.heap.size; omega)]; exact f0
      have hl := setP_length p fold neg c
      have hcl : c < (setP p fold neg c).length := by omega
      obtain ⟨old, g1⟩ : ∃ old, V.cell? ⟨w.heap.size + 1 + 1, 1 + c, none⟩ = some old := ⟨_, by
        rw [← hV, ← hWs, Lib.cell_of_heap hnd, reC_get hl hc1, List.getElem?_eq_getElem hcl]⟩
      have g2 : V.frozen? ⟨w.heap.size + 1 + 1, 1 + c, none⟩ = false := by
        rw [← hV, ← hWs]; exact Lib.frozen_of_heap hnd (1 + c)
      have i0 : (0 : Int) ≤ (c : Int) := by omega
      have i1 : (c : Int) < 128 := by omega
      have fin : ∀ b, V.setCell ⟨w.heap.size + 1 + 1, 1 + c, none⟩ (.bool b) = W.alloc (.cells (reC 1 ((setP p fold neg c).set c (.bool b)) (.slice none 0 0) 0 0) tRe) := by
        intro b; rw [← hV, ← hWs]; exact node_set W hl hc1
      have FN := Lib.hid fin
      have HV := Lib.hid hV
      rw [hV]
      clear fin hnd hl hcl hV
      go_wp2_with fail
      refine (HC.out c _ hc1 kV).mono ?_
      rintro e w1 ⟨rfl, rfl⟩
      cases hp : p c with
      | true =>
        go_wp2_with fail
        go_roundg g
        case measure => omega
        case rel => exact ⟨c + 1, by omega, by go_num, by rw [FN.out, setP_succ p fold neg c hc1, hp]; cases neg <;> rfl⟩
      | false =>
        cases fold with
        | false =>
          go_wp2_with fail
          go_roundg g
          case measure => omega
          case rel => exact ⟨c + 1, by omega, by go_num, by rw [FN.out, setP_succ p false neg c hc1, hp]; cases neg <;> rfl⟩
        | true =>
          have ho := other_any c V hc1
          go_wp2_with fail
          refine ho.mono ?_
          rintro e w1 ⟨rfl, rfl⟩
          clear ho
          go_wp2_with fail
          refine (HC.out (Re.oth c) _ (oth_lt hc1) kV).mono ?_
          rintro e w1 ⟨rfl, rfl⟩
          have FS := Lib.hid (setP_succ p true neg c hc1)
          cases ho2 : p (Re.oth c) with
          | true =>
            go_wp2_with fail
            go_roundg g
            case measure => omega
            case rel => exact ⟨c + 1, by omega, by go_num, by rw [FN.out, FS.out, hp, ho2]; cases neg <;> rfl⟩
          | false =>
            go_wp2_with fail
            go_roundg g
            case measure => omega
            case rel => exact ⟨c + 1, by omega, by go_num, by rw [FN.out, FS.out, hp, ho2]; cases neg <;> rfl⟩
theorem eqc_any (b x c : Nat) (w : World) (h : w.cell? ⟨b, 0, none⟩ = some (.int .u8 c)) : Calls Tryz.prog 77 #[.int .u8 x, .pointer (some ⟨b, 0, none⟩)] w fun e w' => e = .returned (.bool (x == c)) ∧ w = w' := by
  have hx : ((x : Int) == (c : Int)) = (x == c) := by
    rw [Bool.eq_iff_iff]; simp; omega
  have H := Lib.hid hx
  clear hx
  go_enter Tryz.func77, Tryz.ntmps77
  go_wp2
  go_ret
  exact ⟨by rw [← H.out]; rfl, rfl⟩
theorem one_any (c : Nat) (fold dot : Bool) (w : World) :
    Calls Tryz.prog 60 #[.int .u8 c, flV fold dot] w fun e w' => e = .returned (.agg (reC 1 ((Re.setL (fun x => x == c) fold false).map .bool) (.slice none 0 0) 0 0)) ∧ Below w.heap.size w w' := by
  have hz := zeroRe
  have e79 : ∀ args w, (callFunc 77 args).run Tryz.prog w = .ok (.enter 77 args) w := Go.Proofs.enters_of Tryz.func77 (by kernel_rfl) rfl
  have HE := Lib.hid e79
  clear e79
  go_enter Tryz.func60, Tryz.ntmps60
  go_wp2_with fail
  obtain ⟨W, hW⟩ : ∃ W, ((w.alloc (.cells #[.int .u8 c] 5)).alloc (.cells #[.bool fold, .bool dot] tFl)).alloc (.cells reZ tRe) = W := ⟨_, rfl⟩
  have hWs : W.heap.size = w.heap.size + 1 + 1 + 1 := by rw [← hW]; simp
  have kW : Kp (fun _ => False) w W := by rw [← hW]; exact (((Kp.refl _ _).alloc _).alloc _).alloc _
  have f0 : W.cell? ⟨w.heap.size, 0, none⟩ = some (.int .u8 c) := by
    rw [← hW, World.cell?_alloc_lt _ _ ⟨w.heap.size, 0, none⟩ (by simp; omega), World.cell?_alloc_lt _ _ ⟨w.heap.size, 0, none⟩ (by simp), World.cell?_alloc_at _ _ _ _ rfl]; rfl
  have hr : W.heap[w.heap.size + 1 + 1]? = some (.cells reZ tRe (0, 0)) := by
    rw [← hW]; have := heap_alloc_new ((w.alloc (.cells #[.int .u8 c] 5)).alloc (.cells #[.bool fold, .bool dot] tFl)) (.cells reZ tRe); simpa using this
  rw [hW]
  refine (setOf_any 77 (.pointer (some ⟨w.heap.size, 0, none⟩)) (fun x => x == c) fold dot false W HE.out (fun x w' _ k => eqc_any w.heap.size x c w' (k.cell id f0))).mono ?_
  rintro e w1 ⟨rfl, hb⟩
  have hr1 : w1.heap[w.heap.size + 1 + 1]? = some (.cells reZ tRe (0, 0)) := (Kp.of_below (X := fun _ => False) hb).heap id hr
  have kb : Kp (fun _ => False) w w1 := kW.trans (.of_below hb)
  clear f0 hr hW
  go_wp2_with fail
  rw [storeRe _ (w.heap.size + 1 + 1) reZ _ hr1 rfl rfl (oneC_reC oneC_map rfl)]
  go_wp2
  refine bodyPost_ret (v := .agg (reC 1 ((Re.setL (fun x => x == c) fold false).map .bool) (.slice none 0 0) 0 0)) (resultRe Tryz.results60 _ _ (w.heap.size + 1 + 1) _ rfl (setRow_heap _ _ reZ _ tRe (0, 0) hr1) (reC_size (by simp [Re.setL]))) rfl ⟨rfl, ?_⟩
  exact (kb.setRow (.inr (by omega)) _).below (Nat.le_refl _) (fun _ _ h => h)
end Go.Proofs.YtpfgmiocdgfniaaGreatFmt
