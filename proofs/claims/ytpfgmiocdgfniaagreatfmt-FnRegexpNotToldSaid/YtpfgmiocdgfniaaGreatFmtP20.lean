/- Joined by pack.py: AsC. -/
import Derived.Test.YtpfgmiocdgfniaaGreatFmtP19
import Derived.Outline
set_option linter.unusedVariables false
set_option maxHeartbeats 8000000
set_option maxRecDepth 1000000
namespace Go.Proofs.YtpfgmiocdgfniaaGreatFmt
open Go.RowKit Go.Extern.Stop Go.Stop Go.Extern
abbrev tS : TypeId := 106
abbrev tE : TypeId := 154
theorem ta_S109 (v : Value) (w : World) : (Instr.typeAssert (.iface tS v) 49 118 true).run Tryz.prog w = .ok (.tuple #[.nilIface, .bool false]) w := run_typeAssert_lacksB Tryz.underlying118 (by kernel_rfl) (by kernel_rfl) v _ w
theorem ta_S112 (v : Value) (w : World) : (Instr.typeAssert (.iface tS v) 49 121 true).run Tryz.prog w = .ok (.tuple #[.iface tS v, .bool true]) w := by kernel_rfl
theorem ta_E109 (v : Value) (w : World) : (Instr.typeAssert (.iface tE v) 49 118 true).run Tryz.prog w = .ok (.tuple #[.nilIface, .bool false]) w := run_typeAssert_lacksB Tryz.underlying118 (by kernel_rfl) (by kernel_rfl) v _ w
theorem ta_E112 (v : Value) (w : World) : (Instr.typeAssert (.iface tE v) 49 121 true).run Tryz.prog w = .ok (.tuple #[.nilIface, .bool false]) w := run_typeAssert_lacksB Tryz.underlying121 (by kernel_rfl) (by kernel_rfl) v _ w
theorem ta_E113 (v : Value) (w : World) : (Instr.typeAssert (.iface tE v) 49 122 true).run Tryz.prog w = .ok (.tuple #[.nilIface, .bool false]) w := run_typeAssert_lacksB Tryz.underlying122 (by kernel_rfl) (by kernel_rfl) v _ w
theorem infoS : (Tryz.prog.info? 106).map (fun i => (i.methods.find? (·.name == "Unwrap")).map (fun m => (m.path, m.func))) = some (some (#[], some (107, false))) := by kernel_rfl
theorem as_loadS (p : Nat) (m u : Value) (w : World) (h0 : w.cell? ⟨p, 0, none⟩ = some m) (h1 : w.cell? ⟨p, 1, none⟩ = some u) : (loadVar 108 ⟨p, 0, none⟩).run Tryz.prog w = .ok (.agg #[m, u]) w := by
  simp [loadVar, isAgg, underlying, Tryz.underlying108, h0, h1, Result.andThen, go_sem]
theorem as_nilchk (a : Addr) (s1 s2 : String) (w : World) : (Builtin.ssaWrapNilChk_ #[106] 106 #[.pointer (some a), strVal s1, strVal s2]).run Tryz.prog w = .ok (.pointer (some a)) w := by kernel_rfl
theorem as_unwrapM (n p : Nat) (m u : Value) (w : World) (h0 : w.cell? ⟨p, 0, none⟩ = some m) (h1 : w.cell? ⟨p, 1, none⟩ = some u) : (Go.method (n + 1) 106 (.pointer (some ⟨p, 0, none⟩)) "Unwrap").run Tryz.prog w = .ok (107, .agg #[m, u]) w := by
  obtain ⟨i, hi, h⟩ := Option.map_eq_some_iff.1 infoS
  obtain ⟨mm, hm, hmm⟩ := Option.map_eq_some_iff.1 h
  have e1 : mm.path = #[] := congrArg Prod.fst hmm
  have e2 : mm.func = some (107, false) := congrArg Prod.snd hmm
  have hl := as_loadS p m u w h0 h1
  have hk := as_nilchk ⟨p, 0, none⟩
  simp [Go.method, typeInfo, hi, hm, e1, e2, follow, receiverAt, underlying, Tryz.underlying106, Place.get, hk, asAddr, hl, Result.andThen]
theorem as_miss0 (p : Nat) (mm : ByteArray) (t : Addr) (w : World) (hg : w.cell? ⟨gT, 0, none⟩ = some hT0) (hp : w.heap[p]? = some (.cells #[.string mm, .nilIface] 108 (0, 0))) :
    Calls Tryz.prog 16 #[.iface tS (.pointer (some ⟨p, 0, none⟩)), .iface tNN (.pointer (some t))] w fun ev w' => ev = .returned (.bool false) ∧ Below w.heap.size w w' := by
  have h6 := @run_callFunc_extern Tryz.prog 25 _ (fun args => ReflectliteValue.unpack (args.getD 0 (.tuple #[]))) Tryz.func25 (by kernel_rfl) (by kernel_rfl) (by kernel_rfl) (by kernel_rfl)
  have h7 := @run_callFunc_extern Tryz.prog 26 _ (ReflectliteValue.methodAny (ReflectliteValue.valueError "reflectlite.Value.Type" 0) (fun t _ _ _ => ReflectliteType.toType t)) Tryz.func26 (by kernel_rfl) (by kernel_rfl) (by kernel_rfl) (by kernel_rfl)
  have h8 := @run_callFunc_extern Tryz.prog 27 _ (ReflectliteValue.method (ReflectliteValue.valueError "reflectlite.Value.IsNil" 0) ReflectliteValue.isNil) Tryz.func27 (by kernel_rfl) (by kernel_rfl) (by kernel_rfl) (by kernel_rfl)
  have h27 := @run_callFunc_extern Tryz.prog 98 _ (ReflectliteType.abiMethod fun t => do pure (.int .u8 (← Rtype.kind t))) Tryz.func98 (by kernel_rfl) (by kernel_rfl) (by kernel_rfl) (by kernel_rfl)
  have h37 := @run_callFunc_extern Tryz.prog 111 _ (ReflectliteType.method ReflectliteType.elem) Tryz.func111 (by kernel_rfl) (by kernel_rfl) (by kernel_rfl) (by kernel_rfl)
  have h38 := @run_callFunc_extern Tryz.prog 112 _ (ReflectliteType.relation "Implements" ReflectliteType.implements_) Tryz.func112 (by kernel_rfl) (by kernel_rfl) (by kernel_rfl) (by kernel_rfl)
  have h10 := @run_callFunc_extern Tryz.prog 48 _ ReflectliteType.typeOf Tryz.func48 (by kernel_rfl) (by kernel_rfl) (by kernel_rfl) (by kernel_rfl)
  have h35 := @run_callFunc_extern Tryz.prog 109 _ (ReflectliteType.relation "AssignableTo" ReflectliteType.assignableTo) Tryz.func109 (by kernel_rfl) (by kernel_rfl) (by kernel_rfl) (by kernel_rfl)
  have tO := as_typeOfS
  have tO2 := as_typeOfE
  have mA := as_methodAssn
  have aS := as_assnS
  have aE := as_assnE
  have f6 := as_valueNN
  have f7 := as_typeNN
  have mK := as_methodKind
  have mE := as_methodElem
  have mI := as_methodImpl
  have kNN := as_kindNN
  have kN := as_kindN
  have eNN := as_elemNN
  have iN := as_implN
  have n8 := as_isNil ⟨w.heap.size, 0, none⟩ t ((w.alloc (.cells #[.pointer (some t)] tNN)).alloc (.cells #[.pointer (some ⟨nG, tNN, none⟩), .pointer (some ⟨w.heap.size, 0, none⟩), .int .u64 150] tVal)) (by simp)
  have hlt : gT < w.heap.size := World.block_lt_of_cell? _ _ hg
  have hg2 : ((w.alloc (.cells #[.pointer (some t)] tNN)).alloc (.cells #[.pointer (some ⟨nG, tNN, none⟩), .pointer (some ⟨w.heap.size, 0, none⟩), .int .u64 150] tVal)).cell? ⟨gT, 0, none⟩ = some hT0 := by
    rw [World.cell?_alloc_lt _ _ ⟨gT, 0, none⟩ (by simp; omega), World.cell?_alloc_lt _ _ ⟨gT, 0, none⟩ hlt]; exact hg
  have q1 := ta_S109
  have hpl : p < w.heap.size := (Array.getElem?_eq_some_iff.1 hp).1
  have c0 : w.cell? ⟨p, 0, none⟩ = some (.string mm) := by rw [Lib.cell_of_heap hp]; rfl
  have c1 : w.cell? ⟨p, 1, none⟩ = some .nilIface := by rw [Lib.cell_of_heap hp]; rfl
  have un := fun n => as_unwrapM n p (.string mm) .nilIface (((w.alloc (.cells #[.pointer (some t)] tNN)).alloc (.cells #[.pointer (some ⟨nG, tNN, none⟩), .pointer (some ⟨w.heap.size, 0, none⟩), .int .u64 150] tVal)).alloc (.cells #[.pointer (some ⟨nG, tNN, none⟩), .pointer (some ⟨w.heap.size, 0, none⟩), .int .u64 150] tVal)) (by rw [World.cell?_alloc_lt _ _ ⟨p, 0, none⟩ (by simp; omega), World.cell?_alloc_lt _ _ ⟨p, 0, none⟩ (by simp; omega), World.cell?_alloc_lt _ _ ⟨p, 0, none⟩ hpl]; exact c0) (by rw [World.cell?_alloc_lt _ _ ⟨p, 1, none⟩ (by simp; omega), World.cell?_alloc_lt _ _ ⟨p, 1, none⟩ (by simp; omega), World.cell?_alloc_lt _ _ ⟨p, 1, none⟩ hpl]; exact c1)
  have q2 := ta_S112
  go_enter Tryz.func16, Tryz.ntmps16
  go_wp2
  refine wp_loop_rounds 1 ?_
  rw [rounds_succ]
  go_wp2
  go_ret
  exact ⟨rfl, ((((Below.refl _ _).alloc (Nat.le_refl _) _).alloc (by simp) _).alloc (by simp; omega) _).alloc (by simp; omega) _⟩
theorem as_miss1 (p : Nat) (k : Value) (mm : ByteArray) (t : Addr) (w : World) (hg : w.cell? ⟨gT, 0, none⟩ = some hT0) (hp : w.heap[p]? = some (.cells #[.string mm, .iface tE k] 108 (0, 0))) :
    Calls Tryz.prog 16 #[.iface tS (.pointer (some ⟨p, 0, none⟩)), .iface tNN (.pointer (some t))] w fun ev w' => ev = .returned (.bool false) ∧ Below w.heap.size w w' := by
  have h6 := @run_callFunc_extern Tryz.prog 25 _ (fun args => ReflectliteValue.unpack (args.getD 0 (.tuple #[]))) Tryz.func25 (by kernel_rfl) (by kernel_rfl) (by kernel_rfl) (by kernel_rfl)
  have h7 := @run_callFunc_extern Tryz.prog 26 _ (ReflectliteValue.methodAny (ReflectliteValue.valueError "reflectlite.Value.Type" 0) (fun t _ _ _ => ReflectliteType.toType t)) Tryz.func26 (by kernel_rfl) (by kernel_rfl) (by kernel_rfl) (by kernel_rfl)
  have h8 := @run_callFunc_extern Tryz.prog 27 _ (ReflectliteValue.method (ReflectliteValue.valueError "reflectlite.Value.IsNil" 0) ReflectliteValue.isNil) Tryz.func27 (by kernel_rfl) (by kernel_rfl) (by kernel_rfl) (by kernel_rfl)
  have h27 := @run_callFunc_extern Tryz.prog 98 _ (ReflectliteType.abiMethod fun t => do pure (.int .u8 (← Rtype.kind t))) Tryz.func98 (by kernel_rfl) (by kernel_rfl) (by kernel_rfl) (by kernel_rfl)
  have h37 := @run_callFunc_extern Tryz.prog 111 _ (ReflectliteType.method ReflectliteType.elem) Tryz.func111 (by kernel_rfl) (by kernel_rfl) (by kernel_rfl) (by kernel_rfl)
  have h38 := @run_callFunc_extern Tryz.prog 112 _ (ReflectliteType.relation "Implements" ReflectliteType.implements_) Tryz.func112 (by kernel_rfl) (by kernel_rfl) (by kernel_rfl) (by kernel_rfl)
  have h10 := @run_callFunc_extern Tryz.prog 48 _ ReflectliteType.typeOf Tryz.func48 (by kernel_rfl) (by kernel_rfl) (by kernel_rfl) (by kernel_rfl)
  have h35 := @run_callFunc_extern Tryz.prog 109 _ (ReflectliteType.relation "AssignableTo" ReflectliteType.assignableTo) Tryz.func109 (by kernel_rfl) (by kernel_rfl) (by kernel_rfl) (by kernel_rfl)
  have tO := as_typeOfS
  have tO2 := as_typeOfE
  have mA := as_methodAssn
  have aS := as_assnS
  have aE := as_assnE
  have f6 := as_valueNN
  have f7 := as_typeNN
  have mK := as_methodKind
  have mE := as_methodElem
  have mI := as_methodImpl
  have kNN := as_kindNN
  have kN := as_kindN
  have eNN := as_elemNN
  have iN := as_implN
  have n8 := as_isNil ⟨w.heap.size, 0, none⟩ t ((w.alloc (.cells #[.pointer (some t)] tNN)).alloc (.cells #[.pointer (some ⟨nG, tNN, none⟩), .pointer (some ⟨w.heap.size, 0, none⟩), .int .u64 150] tVal)) (by simp)
  have hlt : gT < w.heap.size := World.block_lt_of_cell? _ _ hg
  have hg2 : ((w.alloc (.cells #[.pointer (some t)] tNN)).alloc (.cells #[.pointer (some ⟨nG, tNN, none⟩), .pointer (some ⟨w.heap.size, 0, none⟩), .int .u64 150] tVal)).cell? ⟨gT, 0, none⟩ = some hT0 := by
    rw [World.cell?_alloc_lt _ _ ⟨gT, 0, none⟩ (by simp; omega), World.cell?_alloc_lt _ _ ⟨gT, 0, none⟩ hlt]; exact hg
  have q1 := ta_S109
  have q3 := ta_E109
  have q4 := ta_E112
  have q5 := ta_E113
  have hpl : p < w.heap.size := (Array.getElem?_eq_some_iff.1 hp).1
  have c0 : w.cell? ⟨p, 0, none⟩ = some (.string mm) := by rw [Lib.cell_of_heap hp]; rfl
  have c1 : w.cell? ⟨p, 1, none⟩ = some (.iface tE k) := by rw [Lib.cell_of_heap hp]; rfl
  have un := fun n => as_unwrapM n p (.string mm) (.iface tE k) (((w.alloc (.cells #[.pointer (some t)] tNN)).alloc (.cells #[.pointer (some ⟨nG, tNN, none⟩), .pointer (some ⟨w.heap.size, 0, none⟩), .int .u64 150] tVal)).alloc (.cells #[.pointer (some ⟨nG, tNN, none⟩), .pointer (some ⟨w.heap.size, 0, none⟩), .int .u64 150] tVal)) (by rw [World.cell?_alloc_lt _ _ ⟨p, 0, none⟩ (by simp; omega), World.cell?_alloc_lt _ _ ⟨p, 0, none⟩ (by simp; omega), World.cell?_alloc_lt _ _ ⟨p, 0, none⟩ hpl]; exact c0) (by rw [World.cell?_alloc_lt _ _ ⟨p, 1, none⟩ (by simp; omega), World.cell?_alloc_lt _ _ ⟨p, 1, none⟩ (by simp; omega), World.cell?_alloc_lt _ _ ⟨p, 1, none⟩ hpl]; exact c1)
  have q2 := ta_S112
  go_enter Tryz.func16, Tryz.ntmps16
  go_wp2
  refine wp_loop_rounds 2 ?_
  rw [rounds_succ]
  go_wp2
  rw [rounds_succ]
  go_wp2
  go_ret
  exact ⟨rfl, ((((Below.refl _ _).alloc (Nat.le_refl _) _).alloc (by simp) _).alloc (by simp; omega) _).alloc (by simp; omega) _⟩
end Go.Proofs.YtpfgmiocdgfniaaGreatFmt
