/- Joined by pack.py: BrI, BrJ, BrK, BrL, BrM. -/
import Derived.Test.YtpfgmiocdgfniaaGreatFmtP10
set_option linter.unusedVariables false
set_option maxHeartbeats 8000000
set_option maxRecDepth 1000000
namespace Go.Proofs.YtpfgmiocdgfniaaGreatFmt
open Go.RowKit Go.Extern.Stop Go.Stop Go.Extern
noncomputable def opC : Code := thC (sq2 (elC (sq2 (elC (sq2 (elC (sq2 (elC (sq2 (blC (sq2 (sq1 (blC brBody)))))))))))))
noncomputable def opE : Code := sq1 (sq2 (sq2 opC))
noncomputable def opE1 : Code := sq1 opE
noncomputable def opEc : Code := sq2 opE
noncomputable def opW : Code := sq2 (sq2 (sq2 opC))
theorem LF.open3 {m : Int} {k3 k4 kl g : Nat} {fil : Bool} {c : Nat} {sl : Bool} {dv cv : Value} {r : ByteArray} {n : Nat} {ev : Value} {a : Array Value} {C : Array Value → Prop} (h : LF m k3 k4 kl g fil c sl dv cv a)
    (g24 : a[24]? = some (.string r)) (g25 : a[25]? = some (.int .i64 (n : Int))) (g26 : a[26]? = some ev) (hx : ∀ x : Nat → Value, C #[x 0, x 1, .int .u64 m, .pointer (some ⟨k3, 0, none⟩), .pointer (some ⟨k4, 0, none⟩), x 5, x 6, .int .i32 (c : Int), x 8, x 9, x 10, x 11, x 12, x 13, x 14, .pointer (some ⟨kl, 0, none⟩), .bool fil, .pointer (some ⟨g, 0, none⟩), .bool sl, dv, cv, cloV kl k4 k3, x 22, x 23, .string r, .int .i64 (n : Int), ev, x 27, x 28, x 29, x 30, x 31, x 32, x 33, x 34, x 35, x 36, x 37, x 38, x 39, x 40, x 41, x 42, x 43, x 44, x 45, x 46, x 47, x 48, x 49, x 50, x 51, x 52, x 53, x 54, x 55, x 56, x 57, x 58, x 59, x 60, x 61, x 62, x 63, x 64, x 65, x 66, x 67, x 68, x 69, x 70, x 71, x 72, x 73, x 74, x 75, x 76, x 77, x 78, x 79, x 80, x 81, x 82, x 83, x 84, x 85, x 86, x 87, x 88, x 89, x 90, x 91, x 92, x 93, x 94, x 95, x 96, x 97, x 98, x 99, x 100, x 101, x 102, x 103, x 104, x 105, x 106, x 107, x 108, x 109, x 110, x 111, x 112, x 113, x 114, x 115, x 116, x 117, x 118, x 119, x 120, x 121, x 122, x 123, x 124, x 125, x 126, x 127, x 128, x 129, x 130, x 131, x 132, x 133, x 134, x 135, x 136, x 137, x 138, x 139, x 140, x 141, x 142, x 143, x 144, x 145, x 146, x 147, x 148, x 149, x 150, x 151, x 152, x 153, x 154, x 155, x 156, x 157, x 158, x 159, x 160, x 161, x 162, x 163, x 164, x 165, x 166, x 167, x 168, x 169, x 170, x 171, x 172, x 173, x 174, x 175, x 176, x 177, x 178, x 179, x 180, x 181, x 182, x 183, x 184, x 185, x 186, x 187, x 188, x 189, x 190, x 191, x 192, x 193, x 194, x 195, x 196, x 197, x 198, x 199, x 200, x 201, x 202, x 203, x 204, x 205, x 206, x 207, x 208, x 209, x 210, x 211, x 212, x 213, x 214, x 215, x 216, x 217, x 218, x 219, x 220, x 221, x 222, x 223, x 224, x 225, x 226, x 227, x 228, x 229, x 230, x 231, x 232, x 233, x 234, x 235, x 236, x 237, x 238, x 239, x 240, x 241, x 242, x 243, x 244, x 245, x 246, x 247, x 248, x 249, x 250, x 251, x 252, x 253, x 254, x 255, x 256, x 257, x 258, x 259, x 260, x 261, x 262, x 263, x 264, x 265, x 266, x 267, x 268, x 269, x 270, x 271, x 272, x 273, x 274, x 275, x 276, x 277, x 278, x 279, x 280, x 281, x 282, x 283, x 284, x 285, x 286, x 287, x 288, x 289, x 290, x 291, x 292, x 293, x 294, x 295, x 296, x 297, x 298, x 299, x 300, x 301, x 302, x 303, x 304, x 305, x 306, x 307, x 308, x 309, x 310, x 311, x 312, x 313, x 314, x 315, x 316, x 317, x 318, x 319, x 320, x 321, x 322, x 323, x 324, x 325, x 326, x 327, x 328, x 329, x 330, x 331, x 332, x 333, x 334, x 335, x 336, x 337, x 338, x 339, x 340, x 341, x 342, x 343, x 344, x 345, x 346, x 347, x 348, x 349, x 350, x 351, x 352, x 353, x 354, x 355, x 356, x 357, x 358, x 359, x 360, x 361, x 362, x 363, x 364, x 365, x 366, x 367, x 368, x 369, x 370, x 371, x 372, x 373, x 374, x 375, x 376, x 377, x 378, x 379, x 380, x 381, x 382, x 383, x 384, x 385, x 386, x 387, x 388]) : C a := by
  obtain ⟨x, rfl⟩ := lit389 a h.sz
  have h2 : x 2 = _ := Option.some.inj h.s2
  have h3 : x 3 = _ := Option.some.inj h.s3
  have h4 : x 4 = _ := Option.some.inj h.s4
  have h7 : x 7 = _ := Option.some.inj h.s7
  have h15 : x 15 = _ := Option.some.inj h.s15
  have h16 : x 16 = _ := Option.some.inj h.s16
  have h17 : x 17 = _ := Option.some.inj h.s17
  have h18 : x 18 = _ := Option.some.inj h.s18
  have h19 : x 19 = _ := Option.some.inj h.s19
  have h20 : x 20 = _ := Option.some.inj h.s20
  have h21 : x 21 = _ := Option.some.inj h.s21
  have h24 : x 24 = _ := Option.some.inj g24
  have h25 : x 25 = _ := Option.some.inj g25
  have h26 : x 26 = _ := Option.some.inj g26
  rw [h2, h3, h4, h7, h15, h16, h17, h18, h19, h20, h21, h24, h25, h26]
  exact hx x
theorem op1_no (F : Interp) (B b ls k3 k4 kl g : Nat) (s : ByteArray) (eof : Value) (lit : Nat) (acc : List UInt8) (m : Int) (fil : Bool) (w0 w : World) (c i : Nat) (bs : List UInt8) (sl de ce : Bool) (dv cv : Value) (r : ByteArray) (n : Nat) (ev : Value) (K K1 : Act → World → Prop) (Q Q1 : Exit → Act → World → Prop)
    (hC : BC F B b ls k3 k4 kl s eof acc lit w0) (hB : BS ls s w0 g i bs de ce dv cv w) (hK1 : ∀ a w, Code.wp Tryz.prog opEc (Exit.then K Q) a w → K1 a w) (hev : ev = .nilIface)
    (hK : ∀ a w' dv' cv', LF m k3 k4 kl g fil c sl dv' cv' a → a[24]? = some (.string r) → a[25]? = some (.int .i64 (n : Int)) → a[26]? = some ev → BS ls s w0 g i bs de ce dv' cv' w' → K ⟨a, []⟩ w') (a : Array Value) (hF : LF m k3 k4 kl g fil c sl dv cv a) (h24 : a[24]? = some (.string r)) (h25 : a[25]? = some (.int .i64 (n : Int))) (h26 : a[26]? = some ev) :
    Code.wp Tryz.prog opE1 (Exit.then K1 Q1) ⟨a, []⟩ w := by
  refine hF.open3 (C := fun a => Code.wp Tryz.prog opE1 (Exit.then K1 Q1) ⟨a, []⟩ w) h24 h25 h26 fun x => ?_
  clear hF h24 h25 h26 a
  have HB := Lib.hid hB
  have HK := Lib.hid hK
  have HK1 := Lib.hid hK1
  subst hev
  clear hC hB hK hK1
  conv => arg 2; whnf
  go_wp2_with fail
  refine HK1.out _ _ ?_
  clear HK1
  conv => arg 2; whnf
  go_wp2_with fail
  exact HK.out _ _ _ _ ⟨rfl, rfl, rfl, rfl, rfl, rfl, rfl, rfl, rfl, rfl, rfl, rfl⟩ rfl rfl rfl HB.out
theorem op1_cd (F : Interp) (B b ls k3 k4 kl g : Nat) (s : ByteArray) (eof : Value) (lit : Nat) (acc : List UInt8) (m : Int) (fil : Bool) (w0 w : World) (c i : Nat) (bs : List UInt8) (sl de ce : Bool) (dv cv : Value) (r : ByteArray) (n : Nat) (ev : Value) (K K1 : Act → World → Prop) (Q Q1 : Exit → Act → World → Prop)
    (hC : BC F B b ls k3 k4 kl s eof acc lit w0) (hB : BS ls s w0 g i bs de ce dv cv w) (hK1 : ∀ a w, Code.wp Tryz.prog opEc (Exit.then K Q) a w → K1 a w) (her : ∃ k, ev = .iface 154 (.pointer (some ⟨k, 0, none⟩)) ∧ k < w.heap.size) (hce : ce = true) (hde : de = true)
    (hK : ∀ a w' dv' cv', LF m k3 k4 kl g fil c sl dv' cv' a → a[24]? = some (.string r) → a[25]? = some (.int .i64 (n : Int)) → a[26]? = some ev → BS ls s w0 g i bs true true dv' cv' w' → K ⟨a, []⟩ w') (a : Array Value) (hF : LF m k3 k4 kl g fil c sl dv cv a) (h24 : a[24]? = some (.string r)) (h25 : a[25]? = some (.int .i64 (n : Int))) (h26 : a[26]? = some ev) :
    Code.wp Tryz.prog opE1 (Exit.then K1 Q1) ⟨a, []⟩ w := by
  refine hF.open3 (C := fun a => Code.wp Tryz.prog opE1 (Exit.then K1 Q1) ⟨a, []⟩ w) h24 h25 h26 fun x => ?_
  clear hF h24 h25 h26 a
  have HB := Lib.hid hB
  have HK := Lib.hid hK
  have HK1 := Lib.hid hK1
  subst hce
  subst hde
  obtain ⟨k, rfl, hk⟩ := her
  obtain ⟨p, mm, u, rfl, hp, hu⟩ := hB.D.1 rfl
  obtain ⟨p2, mm2, u2, rfl, hp2, hu2⟩ := hB.C.1 rfl
  clear hp hu hp2 hu2
  clear hC hB hK hK1
  conv => arg 2; whnf
  go_wp2_with fail
  refine HK1.out _ _ ?_
  clear HK1
  conv => arg 2; whnf
  go_wp2_with fail
  exact HK.out _ _ _ _ ⟨rfl, rfl, rfl, rfl, rfl, rfl, rfl, rfl, rfl, rfl, rfl, rfl⟩ rfl rfl rfl HB.out
theorem op1_c (F : Interp) (B b ls k3 k4 kl g : Nat) (s : ByteArray) (eof : Value) (lit : Nat) (acc : List UInt8) (m : Int) (fil : Bool) (w0 w : World) (c i : Nat) (bs : List UInt8) (sl de ce : Bool) (dv cv : Value) (r : ByteArray) (n : Nat) (ev : Value) (K K1 : Act → World → Prop) (Q Q1 : Exit → Act → World → Prop)
    (hC : BC F B b ls k3 k4 kl s eof acc lit w0) (hB : BS ls s w0 g i bs de ce dv cv w) (hK1 : ∀ a w, Code.wp Tryz.prog opEc (Exit.then K Q) a w → K1 a w) (her : ∃ k, ev = .iface 154 (.pointer (some ⟨k, 0, none⟩)) ∧ k < w.heap.size) (hce : ce = true) (hde : de = false)
    (hK : ∀ a w' dv' cv', LF m k3 k4 kl g fil c sl dv' cv' a → a[24]? = some (.string r) → a[25]? = some (.int .i64 (n : Int)) → a[26]? = some ev → BS ls s w0 g i bs true true dv' cv' w' → K ⟨a, []⟩ w') (a : Array Value) (hF : LF m k3 k4 kl g fil c sl dv cv a) (h24 : a[24]? = some (.string r)) (h25 : a[25]? = some (.int .i64 (n : Int))) (h26 : a[26]? = some ev) :
    Code.wp Tryz.prog opE1 (Exit.then K1 Q1) ⟨a, []⟩ w := by
  refine hF.open3 (C := fun a => Code.wp Tryz.prog opE1 (Exit.then K1 Q1) ⟨a, []⟩ w) h24 h25 h26 fun x => ?_
  clear hF h24 h25 h26 a
  have HB := Lib.hid hB
  have HK := Lib.hid hK
  have HK1 := Lib.hid hK1
  subst hce
  subst hde
  obtain ⟨k, rfl, hk⟩ := her
  obtain rfl := hB.D.2 rfl
  have hcc := hB.C
  obtain ⟨p2, mm2, u2, rfl, hp2, hu2⟩ := hB.C.1 rfl
  clear hp2 hu2
  have HN := Lib.hid (hB.setDe hcc)
  clear hcc
  clear hC hB hK hK1
  conv => arg 2; whnf
  go_wp2_with fail
  refine HK1.out _ _ ?_
  clear HK1
  conv => arg 2; whnf
  go_wp2_with fail
  exact HK.out _ _ _ _ ⟨rfl, rfl, rfl, rfl, rfl, rfl, rfl, rfl, rfl, rfl, rfl, rfl⟩ rfl rfl rfl HN.out
theorem op1_d (F : Interp) (B b ls k3 k4 kl g : Nat) (s : ByteArray) (eof : Value) (lit : Nat) (acc : List UInt8) (m : Int) (fil : Bool) (w0 w : World) (c i : Nat) (bs : List UInt8) (sl de ce : Bool) (dv cv : Value) (r : ByteArray) (n : Nat) (ev : Value) (K K1 : Act → World → Prop) (Q Q1 : Exit → Act → World → Prop)
    (hC : BC F B b ls k3 k4 kl s eof acc lit w0) (hB : BS ls s w0 g i bs de ce dv cv w) (hK1 : ∀ a w, Code.wp Tryz.prog opEc (Exit.then K Q) a w → K1 a w) (her : ∃ k, ev = .iface 154 (.pointer (some ⟨k, 0, none⟩)) ∧ k < w.heap.size) (hce : ce = false) (hde : de = true)
    (hK : ∀ a w' dv' cv', LF m k3 k4 kl g fil c sl dv' cv' a → a[24]? = some (.string r) → a[25]? = some (.int .i64 (n : Int)) → a[26]? = some ev → BS ls s w0 g i bs true true dv' cv' w' → K ⟨a, []⟩ w') (a : Array Value) (hF : LF m k3 k4 kl g fil c sl dv cv a) (h24 : a[24]? = some (.string r)) (h25 : a[25]? = some (.int .i64 (n : Int))) (h26 : a[26]? = some ev) :
    Code.wp Tryz.prog opE1 (Exit.then K1 Q1) ⟨a, []⟩ w := by
  refine hF.open3 (C := fun a => Code.wp Tryz.prog opE1 (Exit.then K1 Q1) ⟨a, []⟩ w) h24 h25 h26 fun x => ?_
  clear hF h24 h25 h26 a
  have HB := Lib.hid hB
  have HK := Lib.hid hK
  have HK1 := Lib.hid hK1
  subst hce
  subst hde
  obtain ⟨k, rfl, hk⟩ := her
  obtain rfl := hB.C.2 rfl
  obtain ⟨p2, mm2, u2, rfl, hp2, hu2⟩ := hB.D.1 rfl
  clear hp2 hu2
  have HN := Lib.hid (HB.out.below ((Below.refl w.heap.size w).alloc (Nat.le_refl _) (.cells #[.string ⟨#[99, 104, 97, 114, 67, 108, 97, 115, 115, 32, 105, 110, 118, 97, 108, 105, 100]⟩, .iface 154 (.pointer (some ⟨k, 0, none⟩))] 108 (0, 0))))
  have HY := ErrV.yes (w := w.alloc (.cells #[.string ⟨#[99, 104, 97, 114, 67, 108, 97, 115, 115, 32, 105, 110, 118, 97, 108, 105, 100]⟩, .iface 154 (.pointer (some ⟨k, 0, none⟩))] 108 (0, 0))) (v := .iface 106 (.pointer (some ⟨w.heap.size, 0, none⟩))) ⟨w.heap.size, _, _, rfl, alloc_at _ _, .inr ⟨k, rfl, by rw [World.size_alloc]; omega⟩⟩
  have HN2 := Lib.hid (HN.out.setCe HY)
  clear HN HY
  clear hC hB hK hK1
  conv => arg 2; whnf
  go_wp2_with fail
  refine HK1.out _ _ ?_
  clear HK1
  conv => arg 2; whnf
  go_wp2_with fail
  exact HK.out _ _ _ _ ⟨rfl, rfl, rfl, rfl, rfl, rfl, rfl, rfl, rfl, rfl, rfl, rfl⟩ rfl rfl rfl HN2.out
theorem op1_n (F : Interp) (B b ls k3 k4 kl g : Nat) (s : ByteArray) (eof : Value) (lit : Nat) (acc : List UInt8) (m : Int) (fil : Bool) (w0 w : World) (c i : Nat) (bs : List UInt8) (sl de ce : Bool) (dv cv : Value) (r : ByteArray) (n : Nat) (ev : Value) (K K1 : Act → World → Prop) (Q Q1 : Exit → Act → World → Prop)
    (hC : BC F B b ls k3 k4 kl s eof acc lit w0) (hB : BS ls s w0 g i bs de ce dv cv w) (hK1 : ∀ a w, Code.wp Tryz.prog opEc (Exit.then K Q) a w → K1 a w) (her : ∃ k, ev = .iface 154 (.pointer (some ⟨k, 0, none⟩)) ∧ k < w.heap.size) (hce : ce = false) (hde : de = false)
    (hK : ∀ a w' dv' cv', LF m k3 k4 kl g fil c sl dv' cv' a → a[24]? = some (.string r) → a[25]? = some (.int .i64 (n : Int)) → a[26]? = some ev → BS ls s w0 g i bs true true dv' cv' w' → K ⟨a, []⟩ w') (a : Array Value) (hF : LF m k3 k4 kl g fil c sl dv cv a) (h24 : a[24]? = some (.string r)) (h25 : a[25]? = some (.int .i64 (n : Int))) (h26 : a[26]? = some ev) :
    Code.wp Tryz.prog opE1 (Exit.then K1 Q1) ⟨a, []⟩ w := by
  refine hF.open3 (C := fun a => Code.wp Tryz.prog opE1 (Exit.then K1 Q1) ⟨a, []⟩ w) h24 h25 h26 fun x => ?_
  clear hF h24 h25 h26 a
  have HB := Lib.hid hB
  have HK := Lib.hid hK
  have HK1 := Lib.hid hK1
  subst hce
  subst hde
  obtain ⟨k, rfl, hk⟩ := her
  obtain rfl := hB.C.2 rfl
  obtain rfl := hB.D.2 rfl
  have HN := Lib.hid (HB.out.below ((Below.refl w.heap.size w).alloc (Nat.le_refl _) (.cells #[.string ⟨#[99, 104, 97, 114, 67, 108, 97, 115, 115, 32, 105, 110, 118, 97, 108, 105, 100]⟩, .iface 154 (.pointer (some ⟨k, 0, none⟩))] 108 (0, 0))))
  have HY := ErrV.yes (w := w.alloc (.cells #[.string ⟨#[99, 104, 97, 114, 67, 108, 97, 115, 115, 32, 105, 110, 118, 97, 108, 105, 100]⟩, .iface 154 (.pointer (some ⟨k, 0, none⟩))] 108 (0, 0))) (v := .iface 106 (.pointer (some ⟨w.heap.size, 0, none⟩))) ⟨w.heap.size, _, _, rfl, alloc_at _ _, .inr ⟨k, rfl, by rw [World.size_alloc]; omega⟩⟩
  have HN2 := Lib.hid ((HN.out.setCe HY).setDe HY)
  clear HN HY
  clear hC hB hK hK1
  conv => arg 2; whnf
  go_wp2_with fail
  refine HK1.out _ _ ?_
  clear HK1
  conv => arg 2; whnf
  go_wp2_with fail
  exact HK.out _ _ _ _ ⟨rfl, rfl, rfl, rfl, rfl, rfl, rfl, rfl, rfl, rfl, rfl, rfl⟩ rfl rfl rfl HN2.out
end Go.Proofs.YtpfgmiocdgfniaaGreatFmt

namespace Go.Proofs.YtpfgmiocdgfniaaGreatFmt
open Go.RowKit Go.Extern.Stop Go.Stop Go.Extern
theorem op2_0 (F : Interp) (B b ls k3 k4 kl g : Nat) (s : ByteArray) (eof : Value) (lit : Nat) (acc : List UInt8) (m : Int) (fil : Bool) (w0 w : World) (c i : Nat) (bs : List UInt8) (sl de ce : Bool) (dv cv : Value) (r : ByteArray) (n : Nat) (ev : Value) (Q : Exit → Act → World → Prop)
    (hC : BC F B b ls k3 k4 kl s eof acc lit w0) (hB : BS ls s w0 g i bs de ce dv cv w) (hl8 : bs.length + 8 ≤ 8 * i) (hrs : i + r.size ≤ s.size) (hn0 : n = 0)
    (hK : ∀ a w', LF m k3 k4 kl g fil c sl dv cv a → BS ls s w0 g i (bs ++ [91]) de ce dv cv w' → Q .normal ⟨a, []⟩ w') (a : Array Value) (hF : LF m k3 k4 kl g fil c sl dv cv a) (h24 : a[24]? = some (.string r)) (h25 : a[25]? = some (.int .i64 (n : Int))) (h26 : a[26]? = some ev) :
    Code.wp Tryz.prog opW Q ⟨a, []⟩ w := by
  refine hF.open3 (C := fun a => Code.wp Tryz.prog opW Q ⟨a, []⟩ w) h24 h25 h26 fun x => ?_
  clear hF h24 h25 h26 a
  have HC := Lib.hid hC
  have HB := Lib.hid hB
  have HK := Lib.hid hK
  have hr := hB.room hC
  have hbl := hB.bl
  have hsz := hB.kp.size
  have hs42 := hC.st.base.hs
  have hi := hB.hi
  subst hn0
  have HW := Lib.hid (writeByte_any w0.heap.size g (Lib.byteCells bs) 91 w hB.Bg (by omega) hsz)
  clear hC hB hK
  conv => arg 2; whnf
  go_wp2_with fail
  refine HW.out.mono ?_
  rintro e w1 ⟨rfl, hB1, hf1⟩
  have hW1 := (HB.out.write (out := [91]) hB1 hf1).toB (by rw [List.length_append]; simp only [List.length_cons, List.length_nil]; omega)
  obtain ⟨f3, f4, f1, f0⟩ := (hW1.st HC.out).cells
  have HW1 := Lib.hid hW1
  clear hB1 hf1 HB HW
  have HE := Lib.hid hW1
  clear hW1 HW1 f3 f4 f1 f0
  go_wp2_with fail
  exact HK.out _ _ ⟨rfl, rfl, rfl, rfl, rfl, rfl, rfl, rfl, rfl, rfl, rfl, rfl⟩ HE.out
theorem op2_a (F : Interp) (B b ls k3 k4 kl g : Nat) (s : ByteArray) (eof : Value) (lit : Nat) (acc : List UInt8) (m : Int) (fil : Bool) (w0 w : World) (c i : Nat) (bs : List UInt8) (sl de ce : Bool) (dv cv : Value) (r : ByteArray) (n : Nat) (ev : Value) (Q : Exit → Act → World → Prop)
    (hC : BC F B b ls k3 k4 kl s eof acc lit w0) (hB : BS ls s w0 g i bs de ce dv cv w) (hl8 : bs.length + 8 ≤ 8 * i) (hrs : i + r.size ≤ s.size) (hn0 : 0 < n) (hnr : n ≤ r.size) (hfl : fil = false)
    (hK : ∀ a w', LF m k3 k4 kl g fil c sl dv cv a → BS ls s w0 g (i + n) (bs ++ (91 :: (r.extract 0 n).data.toList)) de ce dv cv w' → Q .normal ⟨a, []⟩ w') (a : Array Value) (hF : LF m k3 k4 kl g fil c sl dv cv a) (h24 : a[24]? = some (.string r)) (h25 : a[25]? = some (.int .i64 (n : Int))) (h26 : a[26]? = some ev) :
    Code.wp Tryz.prog opW Q ⟨a, []⟩ w := by
  refine hF.open3 (C := fun a => Code.wp Tryz.prog opW Q ⟨a, []⟩ w) h24 h25 h26 fun x => ?_
  clear hF h24 h25 h26 a
  have HC := Lib.hid hC
  have HB := Lib.hid hB
  have HK := Lib.hid hK
  have hr := hB.room hC
  have hbl := hB.bl
  have hsz := hB.kp.size
  have hs42 := hC.st.base.hs
  have hi := hB.hi
  subst hfl
  have hn1 : (0 : Int) < (n : Int) := by omega
  have hn2 : (n : Int) ≤ (r.size : Int) := by omega
  have hn3 : (0 : Int) ≤ (n : Int) := by omega
  have HW := Lib.hid (writeByte_any w0.heap.size g (Lib.byteCells bs) 91 w hB.Bg (by omega) hsz)
  clear hC hB hK
  conv => arg 2; whnf
  go_wp2_with fail
  refine HW.out.mono ?_
  rintro e w1 ⟨rfl, hB1, hf1⟩
  have hW1 := (HB.out.write (out := [91]) hB1 hf1).toB (by rw [List.length_append]; simp only [List.length_cons, List.length_nil]; omega)
  obtain ⟨f3, f4, f1, f0⟩ := (hW1.st HC.out).cells
  have HW1 := Lib.hid hW1
  clear hB1 hf1 HB HW
  have hsz1 := hW1.kp.size
  have hr1 := hW1.room HC.out
  have HW2 := Lib.hid (writeString_any w0.heap.size g (Lib.byteCells (bs ++ [91])) (r.extract 0 n) w1 hW1.Bg (by rw [ByteArray.size_extract]; omega) hsz1)
  have hxz : (r.extract 0 n).size = n := by rw [ByteArray.size_extract]; omega
  have HXZ := Lib.hid hxz
  clear hW1 hxz
  go_wp2_with fail
  refine HW2.out.mono ?_
  rintro e w2 ⟨rfl, hB2, hf2⟩
  have hW2 := HW1.out.write (out := (r.extract 0 n).data.toList) hB2 hf2
  obtain ⟨q3, q4, q1, q0⟩ := (hW2.st HC.out).cells
  have qfz := (cells_of hW2.L).2.2.1
  have HE : Hid (BS ls s w0 g (i + n) (bs ++ 91 :: (r.extract 0 n).data.toList) de ce dv cv (w2.setCell ⟨ls, 1, none⟩ (.int .i64 ((i : Int) + (n : Int))))) := Lib.hid (by
    have h := hW2.lex (w' := w2.setCell ⟨ls, 1, none⟩ (.int .i64 ((i + n : Nat) : Int))) (j := i + n) hW2.L.set (by omega) (by rw [List.length_append, List.length_append, Pat.size_toList, HXZ.out]; simp only [List.length_cons, List.length_nil]; omega) (Kp.setls _)
    rw [List.append_assoc] at h
    simpa using h)
  clear hW2 hB2 hf2 HW1 HW2 f3 f4 f1 f0
  go_wp2_with fail
  exact HK.out _ _ ⟨rfl, rfl, rfl, rfl, rfl, rfl, rfl, rfl, rfl, rfl, rfl, rfl⟩ HE.out
end Go.Proofs.YtpfgmiocdgfniaaGreatFmt

namespace Go.Proofs.YtpfgmiocdgfniaaGreatFmt
open Go.RowKit Go.Extern.Stop Go.Stop Go.Extern
theorem contains_false (x : ByteArray) (w : World) (hs : x.size ≤ 4611686018427387904) (h : (idx x.data.toList [47]).isSome = false) :
    Calls Tryz.prog 47 #[.string x, .string ⟨#[47]⟩] w fun e w' => e = .returned (.bool false) ∧ w = w' := by
  have hc := zzContains_any x ⟨#[47]⟩ w hs (by decide)
  have e : (idx x.data.toList (ByteArray.mk #[47]).data.toList).isSome = false := h
  rw [e] at hc
  exact hc
theorem contains_true (x : ByteArray) (w : World) (hs : x.size ≤ 4611686018427387904) (h : (idx x.data.toList [47]).isSome = true) :
    Calls Tryz.prog 47 #[.string x, .string ⟨#[47]⟩] w fun e w' => e = .returned (.bool true) ∧ w = w' := by
  have hc := zzContains_any x ⟨#[47]⟩ w hs (by decide)
  have e : (idx x.data.toList (ByteArray.mk #[47]).data.toList).isSome = true := h
  rw [e] at hc
  exact hc
theorem op2_b (F : Interp) (B b ls k3 k4 kl g : Nat) (s : ByteArray) (eof : Value) (lit : Nat) (acc : List UInt8) (m : Int) (fil : Bool) (w0 w : World) (c i : Nat) (bs : List UInt8) (sl de ce : Bool) (dv cv : Value) (r : ByteArray) (n : Nat) (ev : Value) (Q : Exit → Act → World → Prop)
    (hC : BC F B b ls k3 k4 kl s eof acc lit w0) (hB : BS ls s w0 g i bs de ce dv cv w) (hl8 : bs.length + 8 ≤ 8 * i) (hrs : i + r.size ≤ s.size) (hn0 : 0 < n) (hnr : n ≤ r.size) (hfl : fil = true) (hct : (idx (r.extract 0 n).data.toList [47]).isSome = false)
    (hK : ∀ a w', LF m k3 k4 kl g fil c sl dv cv a → BS ls s w0 g (i + n) (bs ++ (91 :: (r.extract 0 n).data.toList)) de ce dv cv w' → Q .normal ⟨a, []⟩ w') (a : Array Value) (hF : LF m k3 k4 kl g fil c sl dv cv a) (h24 : a[24]? = some (.string r)) (h25 : a[25]? = some (.int .i64 (n : Int))) (h26 : a[26]? = some ev) :
    Code.wp Tryz.prog opW Q ⟨a, []⟩ w := by
  refine hF.open3 (C := fun a => Code.wp Tryz.prog opW Q ⟨a, []⟩ w) h24 h25 h26 fun x => ?_
  clear hF h24 h25 h26 a
  have HC := Lib.hid hC
  have HB := Lib.hid hB
  have HK := Lib.hid hK
  have hr := hB.room hC
  have hbl := hB.bl
  have hsz := hB.kp.size
  have hs42 := hC.st.base.hs
  have hi := hB.hi
  subst hfl
  have hn1 : (0 : Int) < (n : Int) := by omega
  have hn2 : (n : Int) ≤ (r.size : Int) := by omega
  have hn3 : (0 : Int) ≤ (n : Int) := by omega
  have HZC := Lib.hid (fun w' => contains_false (r.extract 0 n) w' (by rw [ByteArray.size_extract]; omega) hct)
  clear hct
  have HW := Lib.hid (writeByte_any w0.heap.size g (Lib.byteCells bs) 91 w hB.Bg (by omega) hsz)
  clear hC hB hK
  conv => arg 2; whnf
  go_wp2_with fail
  refine HW.out.mono ?_
  rintro e w1 ⟨rfl, hB1, hf1⟩
  have hW1 := (HB.out.write (out := [91]) hB1 hf1).toB (by rw [List.length_append]; simp only [List.length_cons, List.length_nil]; omega)
  obtain ⟨f3, f4, f1, f0⟩ := (hW1.st HC.out).cells
  have HW1 := Lib.hid hW1
  clear hB1 hf1 HB HW
  have hsz1 := hW1.kp.size
  have hr1 := hW1.room HC.out
  have HW2 := Lib.hid (writeString_any w0.heap.size g (Lib.byteCells (bs ++ [91])) (r.extract 0 n) w1 hW1.Bg (by rw [ByteArray.size_extract]; omega) hsz1)
  have hxz : (r.extract 0 n).size = n := by rw [ByteArray.size_extract]; omega
  have HXZ := Lib.hid hxz
  clear hW1 hxz
  go_wp2_with ((go_at_call 47; refine (HZC.out _).mono ?_; rintro e wz ⟨rfl, rfl⟩))
  refine HW2.out.mono ?_
  rintro e w2 ⟨rfl, hB2, hf2⟩
  have hW2 := HW1.out.write (out := (r.extract 0 n).data.toList) hB2 hf2
  obtain ⟨q3, q4, q1, q0⟩ := (hW2.st HC.out).cells
  have qfz := (cells_of hW2.L).2.2.1
  have HE : Hid (BS ls s w0 g (i + n) (bs ++ 91 :: (r.extract 0 n).data.toList) de ce dv cv (w2.setCell ⟨ls, 1, none⟩ (.int .i64 ((i : Int) + (n : Int))))) := Lib.hid (by
    have h := hW2.lex (w' := w2.setCell ⟨ls, 1, none⟩ (.int .i64 ((i + n : Nat) : Int))) (j := i + n) hW2.L.set (by omega) (by rw [List.length_append, List.length_append, Pat.size_toList, HXZ.out]; simp only [List.length_cons, List.length_nil]; omega) (Kp.setls _)
    rw [List.append_assoc] at h
    simpa using h)
  clear hW2 hB2 hf2 HW1 HW2 f3 f4 f1 f0
  go_wp2_with fail
  exact HK.out _ _ ⟨rfl, rfl, rfl, rfl, rfl, rfl, rfl, rfl, rfl, rfl, rfl, rfl⟩ HE.out
theorem op2_c (F : Interp) (B b ls k3 k4 kl g : Nat) (s : ByteArray) (eof : Value) (lit : Nat) (acc : List UInt8) (m : Int) (fil : Bool) (w0 w : World) (c i : Nat) (bs : List UInt8) (sl de ce : Bool) (dv cv : Value) (r : ByteArray) (n : Nat) (ev : Value) (Q : Exit → Act → World → Prop)
    (hC : BC F B b ls k3 k4 kl s eof acc lit w0) (hB : BS ls s w0 g i bs de ce dv cv w) (hl8 : bs.length + 8 ≤ 8 * i) (hrs : i + r.size ≤ s.size) (hn0 : 0 < n) (hnr : n ≤ r.size) (hfl : fil = true) (hct : (idx (r.extract 0 n).data.toList [47]).isSome = true)
    (hK : ∀ a w', LF m k3 k4 kl g fil c true dv cv a → BS ls s w0 g (i + n) (bs ++ (91 :: (r.extract 0 n).data.toList)) de ce dv cv w' → Q .normal ⟨a, []⟩ w') (a : Array Value) (hF : LF m k3 k4 kl g fil c sl dv cv a) (h24 : a[24]? = some (.string r)) (h25 : a[25]? = some (.int .i64 (n : Int))) (h26 : a[26]? = some ev) :
    Code.wp Tryz.prog opW Q ⟨a, []⟩ w := by
  refine hF.open3 (C := fun a => Code.wp Tryz.prog opW Q ⟨a, []⟩ w) h24 h25 h26 fun x => ?_
  clear hF h24 h25 h26 a
  have HC := Lib.hid hC
  have HB := Lib.hid hB
  have HK := Lib.hid hK
  have hr := hB.room hC
  have hbl := hB.bl
  have hsz := hB.kp.size
  have hs42 := hC.st.base.hs
  have hi := hB.hi
  subst hfl
  have hn1 : (0 : Int) < (n : Int) := by omega
  have hn2 : (n : Int) ≤ (r.size : Int) := by omega
  have hn3 : (0 : Int) ≤ (n : Int) := by omega
  have HZC := Lib.hid (fun w' => contains_true (r.extract 0 n) w' (by rw [ByteArray.size_extract]; omega) hct)
  clear hct
  have HW := Lib.hid (writeByte_any w0.heap.size g (Lib.byteCells bs) 91 w hB.Bg (by omega) hsz)
  clear hC hB hK
  conv => arg 2; whnf
  go_wp2_with fail
  refine HW.out.mono ?_
  rintro e w1 ⟨rfl, hB1, hf1⟩
  have hW1 := (HB.out.write (out := [91]) hB1 hf1).toB (by rw [List.length_append]; simp only [List.length_cons, List.length_nil]; omega)
  obtain ⟨f3, f4, f1, f0⟩ := (hW1.st HC.out).cells
  have HW1 := Lib.hid hW1
  clear hB1 hf1 HB HW
  have hsz1 := hW1.kp.size
  have hr1 := hW1.room HC.out
  have HW2 := Lib.hid (writeString_any w0.heap.size g (Lib.byteCells (bs ++ [91])) (r.extract 0 n) w1 hW1.Bg (by rw [ByteArray.size_extract]; omega) hsz1)
  have hxz : (r.extract 0 n).size = n := by rw [ByteArray.size_extract]; omega
  have HXZ := Lib.hid hxz
  clear hW1 hxz
  go_wp2_with ((go_at_call 47; refine (HZC.out _).mono ?_; rintro e wz ⟨rfl, rfl⟩))
  refine HW2.out.mono ?_
  rintro e w2 ⟨rfl, hB2, hf2⟩
  have hW2 := HW1.out.write (out := (r.extract 0 n).data.toList) hB2 hf2
  obtain ⟨q3, q4, q1, q0⟩ := (hW2.st HC.out).cells
  have qfz := (cells_of hW2.L).2.2.1
  have HE : Hid (BS ls s w0 g (i + n) (bs ++ 91 :: (r.extract 0 n).data.toList) de ce dv cv (w2.setCell ⟨ls, 1, none⟩ (.int .i64 ((i : Int) + (n : Int))))) := Lib.hid (by
    have h := hW2.lex (w' := w2.setCell ⟨ls, 1, none⟩ (.int .i64 ((i + n : Nat) : Int))) (j := i + n) hW2.L.set (by omega) (by rw [List.length_append, List.length_append, Pat.size_toList, HXZ.out]; simp only [List.length_cons, List.length_nil]; omega) (Kp.setls _)
    rw [List.append_assoc] at h
    simpa using h)
  clear hW2 hB2 hf2 HW1 HW2 f3 f4 f1 f0
  go_wp2_with fail
  exact HK.out _ _ ⟨rfl, rfl, rfl, rfl, rfl, rfl, rfl, rfl, rfl, rfl, rfl, rfl⟩ HE.out
end Go.Proofs.YtpfgmiocdgfniaaGreatFmt

namespace Go.Proofs.YtpfgmiocdgfniaaGreatFmt
open Go.RowKit Go.Extern.Stop Go.Stop Go.Extern
theorem op1_any (F : Interp) (B b ls k3 k4 kl g : Nat) (s : ByteArray) (eof : Value) (lit : Nat) (acc : List UInt8) (m : Int) (fil : Bool) (w0 w : World) (c i : Nat) (bs : List UInt8) (sl de ce : Bool) (dv cv : Value) (r : ByteArray) (n : Nat) (ev : Value) (er : Bool) (K K1 : Act → World → Prop) (Q Q1 : Exit → Act → World → Prop)
    (hC : BC F B b ls k3 k4 kl s eof acc lit w0) (hB : BS ls s w0 g i bs de ce dv cv w) (hK1 : ∀ a w, Code.wp Tryz.prog opEc (Exit.then K Q) a w → K1 a w) (hev0 : er = false → ev = .nilIface) (hev1 : er = true → ∃ k, ev = .iface 154 (.pointer (some ⟨k, 0, none⟩)) ∧ k < w.heap.size)
    (hK : ∀ a w' dv' cv', LF m k3 k4 kl g fil c sl dv' cv' a → a[24]? = some (.string r) → a[25]? = some (.int .i64 (n : Int)) → a[26]? = some ev → BS ls s w0 g i bs (de || er) (ce || er) dv' cv' w' → K ⟨a, []⟩ w') (a : Array Value) (hF : LF m k3 k4 kl g fil c sl dv cv a) (h24 : a[24]? = some (.string r)) (h25 : a[25]? = some (.int .i64 (n : Int))) (h26 : a[26]? = some ev) :
    Code.wp Tryz.prog opE1 (Exit.then K1 Q1) ⟨a, []⟩ w := by
  cases er with
  | false =>
    rw [Bool.or_false, Bool.or_false] at hK
    exact op1_no F B b ls k3 k4 kl g s eof lit acc m fil w0 w c i bs sl de ce dv cv r n ev K K1 Q Q1 hC hB hK1 (hev0 rfl) hK a hF h24 h25 h26
  | true =>
    rw [Bool.or_true, Bool.or_true] at hK
    have her := hev1 rfl
    cases hce : ce <;> cases hde : de
    · exact op1_n F B b ls k3 k4 kl g s eof lit acc m fil w0 w c i bs sl de ce dv cv r n ev K K1 Q Q1 hC hB hK1 her hce hde hK a hF h24 h25 h26
    · exact op1_d F B b ls k3 k4 kl g s eof lit acc m fil w0 w c i bs sl de ce dv cv r n ev K K1 Q Q1 hC hB hK1 her hce hde hK a hF h24 h25 h26
    · exact op1_c F B b ls k3 k4 kl g s eof lit acc m fil w0 w c i bs sl de ce dv cv r n ev K K1 Q Q1 hC hB hK1 her hce hde hK a hF h24 h25 h26
    · exact op1_cd F B b ls k3 k4 kl g s eof lit acc m fil w0 w c i bs sl de ce dv cv r n ev K K1 Q Q1 hC hB hK1 her hce hde hK a hF h24 h25 h26
theorem op2_any (F : Interp) (B b ls k3 k4 kl g : Nat) (s : ByteArray) (eof : Value) (lit : Nat) (acc : List UInt8) (m : Int) (fil : Bool) (w0 w : World) (c i : Nat) (bs : List UInt8) (sl de ce : Bool) (dv cv : Value) (r : ByteArray) (n : Nat) (ev : Value) (Q : Exit → Act → World → Prop)
    (hC : BC F B b ls k3 k4 kl s eof acc lit w0) (hB : BS ls s w0 g i bs de ce dv cv w) (hl8 : bs.length + 8 ≤ 8 * i) (hrs : i + r.size ≤ s.size) (hnr : n ≤ r.size)
    (hK : ∀ a w', LF m k3 k4 kl g fil c (sl || (fil && (idx (r.extract 0 n).data.toList [47]).isSome)) dv cv a → BS ls s w0 g (i + n) (bs ++ 91 :: (r.extract 0 n).data.toList) de ce dv cv w' → Q .normal ⟨a, []⟩ w') (a : Array Value) (hF : LF m k3 k4 kl g fil c sl dv cv a) (h24 : a[24]? = some (.string r)) (h25 : a[25]? = some (.int .i64 (n : Int))) (h26 : a[26]? = some ev) :
    Code.wp Tryz.prog opW Q ⟨a, []⟩ w := by
  by_cases hn : n = 0
  · subst hn
    have e : (r.extract 0 0).data.toList = [] := by rw [extract_list]; simp
    rw [e] at hK
    have e2 : (idx ([] : List UInt8) [47]).isSome = false := rfl
    rw [e2, Bool.and_false, Bool.or_false] at hK
    exact op2_0 F B b ls k3 k4 kl g s eof lit acc m fil w0 w c i bs sl de ce dv cv r 0 ev Q hC hB hl8 hrs rfl hK a hF h24 h25 h26
  · have hn0 : 0 < n := by omega
    cases hfl : fil with
    | false =>
      subst hfl
      rw [Bool.false_and, Bool.or_false] at hK
      exact op2_a F B b ls k3 k4 kl g s eof lit acc m false w0 w c i bs sl de ce dv cv r n ev Q hC hB hl8 hrs hn0 hnr rfl hK a hF h24 h25 h26
    | true =>
      subst hfl
      cases hct : (idx (r.extract 0 n).data.toList [47]).isSome with
      | false =>
        rw [hct, Bool.and_false, Bool.or_false] at hK
        exact op2_b F B b ls k3 k4 kl g s eof lit acc m true w0 w c i bs sl de ce dv cv r n ev Q hC hB hl8 hrs hn0 hnr rfl hct hK a hF h24 h25 h26
      | true =>
        rw [hct, Bool.and_true, Bool.or_true] at hK
        exact op2_c F B b ls k3 k4 kl g s eof lit acc m true w0 w c i bs sl de ce dv cv r n ev Q hC hB hl8 hrs hn0 hnr rfl hct hK a hF h24 h25 h26
end Go.Proofs.YtpfgmiocdgfniaaGreatFmt

namespace Go.Proofs.YtpfgmiocdgfniaaGreatFmt
open Go.RowKit Go.Extern.Stop Go.Stop Go.Extern
theorem cc_le (l : List UInt8) : (cc l).1 ≤ l.length := by
  unfold cc
  split
  · simp
  · rename_i c r
    split
    · split
      · simp
      · rename_i k hk
        have := idx_le _ _ _ hk
        simp only [List.length_cons, List.length_nil] at this ⊢
        omega
    · split
      · split
        · simp
        · rename_i k hk
          have := idx_le _ _ _ hk
          simp only [List.length_cons, List.length_nil] at this ⊢
          omega
      · simp
theorem rd_open (F : Interp) (B b ls k3 k4 kl g : Nat) (s : ByteArray) (eof : Value) (lit : Nat) (acc : List UInt8) (m : Int) (fil : Bool) (w0 w : World) (c i : Nat) (bs : List UInt8) (sl de ce : Bool) (dv cv : Value) (K : Act → World → Prop) (Q : Exit → Act → World → Prop)
    (hC : BC F B b ls k3 k4 kl s eof acc lit w0) (hB : BS ls s w0 g i bs de ce dv cv w) (hc : c = 91) (hl8 : bs.length + 8 ≤ 8 * i) (r : ByteArray) (hr : s.extract i s.size = r) (n : Nat) (er : Bool) (hcc : cc r.data.toList = (n, er))
    (hK : ∀ a w' dv' cv', LF m k3 k4 kl g fil (nx s (i + n)).1 (sl || (fil && (idx (r.extract 0 n).data.toList [47]).isSome)) dv' cv' a → BS ls s w0 g (nx s (i + n)).2 (bs ++ 91 :: (r.extract 0 n).data.toList) (de || er) (ce || er) dv' cv' w' → K ⟨a, []⟩ w') (a : Array Value) (hF : LF m k3 k4 kl g fil c sl dv cv a) :
    Code.wp Tryz.prog brBody (Exit.then K Q) ⟨a, []⟩ w := by
  refine hF.open (C := fun a => Code.wp Tryz.prog brBody (Exit.then K Q) ⟨a, []⟩ w) fun x => ?_
  clear hF a
  subst hc
  have hst := hB.st hC
  have hs42 := hC.st.base.hs
  have hi := hB.hi
  have hrs : i + r.size ≤ s.size := by rw [← hr, ByteArray.size_extract]; omega
  have hnr : n ≤ r.size := by have := cc_le r.data.toList; rw [hcc, Pat.size_toList] at this; exact this
  have HR := Lib.hid (peekRest_any ls s i w hst.L hst.hi (by omega))
  rw [hr] at HR
  have HCC := Lib.hid (fun w' hF => charClass_any F r w' (by omega) hF)
  rw [hcc] at HCC
  obtain ⟨e3, e4, e1, e0⟩ := hst.cells
  have HC := Lib.hid hC
  have HB := Lib.hid hB
  have HK := Lib.hid hK
  clear hr hcc hC hB hK hst
  conv => arg 2; whnf
  go_upto_region 125 with (first | (go_at_call 45; refine (HR.out).mono ?_; rintro e w1 ⟨rfl, hb1⟩; have HB1 := Lib.hid (HB.out.below hb1); clear hb1 HB HR) | (go_at_call 46; refine (HCC.out _ (HB1.out.st HC.out).base.F).mono ?_; rintro e w2 ⟨ev, rfl, hv0, hv1, hb2⟩; have HB2 := Lib.hid (HB1.out.below hb2); have HV0 := Lib.hid hv0; have HV1 := Lib.hid hv1; clear hb2 HB1 hv0 hv1 HCC))
  rename_i Ka hKa Kb hKb Kc hKc
  refine op1_any F B b ls k3 k4 kl g s eof lit acc m fil w0 w2 91 i bs sl de ce dv cv r n ev er Kb Kc _ _ HC.out HB2.out hKc HV0.out HV1.out ?_ _ ⟨rfl, rfl, rfl, rfl, rfl, rfl, rfl, rfl, rfl, rfl, rfl, rfl⟩ rfl rfl rfl
  intro a w' dv' cv' hF h24 h25 h26 hB
  refine hKb _ _ ?_
  refine op2_any F B b ls k3 k4 kl g s eof lit acc m fil w0 w' 91 i bs sl (de || er) (ce || er) dv' cv' r n ev _ HC.out hB hl8 hrs hnr ?_ a hF h24 h25 h26
  intro a2 w3 hF2 hB2
  refine hKa _ _ ?_
  refine rd_next F B b ls k3 k4 kl g s eof lit acc m fil w0 w3 91 (i + n) _ _ _ _ dv' cv' _ HC.out hB2 ?_ a2 hF2
  intro a3 w4 hF3 hB3
  exact HK.out _ _ _ _ hF3 hB3
end Go.Proofs.YtpfgmiocdgfniaaGreatFmt
