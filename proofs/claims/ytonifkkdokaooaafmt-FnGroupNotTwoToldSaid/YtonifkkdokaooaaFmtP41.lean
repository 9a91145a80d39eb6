/- Joined by pack.py: AsB. -/
import Derived.Test.YtonifkkdokaooaaFmtP40
/- Walk: errors.As: hit and miss. -/
namespace Go.Proofs.YtonifkkdokaooaaFmt
open Go.RowKit Go.Extern.Stop Go.Stop Go.Extern
set_option linter.unusedVariables false

theorem rls (v x : Value) : ReflectliteValue.set #[v, x] = (do
    let (some (dst, a, fl), some (src, b, _)) := (← ReflectliteValue.parts v, ← ReflectliteValue.parts x)
      | unsupported (.noEntry "extern/(internal/reflectlite.Value).Set.zeroValue")
    if fl / ReflectliteValue.flagAddr % 2 == 0 then unsupported (.noEntry "extern/(internal/reflectlite.Value).Set.unaddressable")
    let val ← loadVar src b
    if ← Rtype.directlyAssignable dst src then storeVar dst a val
    else if ← Rtype.implements dst src then
      if (← Rtype.kind src) == 20 then
        match val with
        | .nilIface => unsupported (.noEntry "extern/reflectlite: a nil value of one interface type handed on as a value of another")
        | _ => storeVar dst a val
      else storeVar dst a (.iface src val)
    else panicString ("reflectlite.Set: value of type " ++ (← Rtype.spelt src) ++ " is not assignable to type " ++ (← Rtype.spelt dst))
    pure (.tuple #[])) := rfl
theorem as_partsNa (a : Addr) (w : World) : (ReflectliteValue.parts (.agg #[.pointer (some ⟨nG, tN, none⟩), .pointer (some a), .int .u64 406])).run Tryf.prog w = .ok (some (tN, a, 406)) w := by kernel_rfl
theorem as_partsN (a : Addr) (w : World) : (ReflectliteValue.parts (.agg #[.pointer (some ⟨nG, tN, none⟩), .pointer (some a), .int .u64 150])).run Tryf.prog w = .ok (some (tN, a, 150)) w := by kernel_rfl
theorem as_direct (w : World) : (Rtype.directlyAssignable tN tN).run Tryf.prog w = .ok true w := by kernel_rfl
theorem as_set (ta b e : Addr) (old : Value) (W : World) (hb : W.cell? b = some (.pointer (some e))) (ht : W.cell? ta = some old) (hf : W.frozen? ta = false) :
    (ReflectliteValue.set #[.agg #[.pointer (some ⟨nG, tN, none⟩), .pointer (some ta), .int .u64 406], .agg #[.pointer (some ⟨nG, tN, none⟩), .pointer (some b), .int .u64 150]]).run Tryf.prog W
      = .ok (.tuple #[]) (W.setCell ta (.pointer (some e))) := by
  rw [rls]
  simp only [Sem.run_bind, as_partsNa, as_partsN, Result.andThen]
  simp [ReflectliteValue.flagAddr, loadVar, isAgg, underlying, Tryf.underlying45, hb, Result.andThen, as_direct, storeVar, Value.cells, storeCells, Addr.add]
  rw [run_store Tryf.prog W ta _ _ (by rfl)]
  simp [ht, hf]
abbrev gT : Nat := 1
abbrev hT0 : Value := .iface tRt (.agg #[.pointer (some ⟨nG, 41, none⟩)])
set_option maxHeartbeats 4000000 in
set_option maxRecDepth 100000 in
theorem as_hit (e t : Addr) (old : Value) (w : World) (hg : w.cell? ⟨gT, 0, none⟩ = some hT0) (ht0 : w.cell? t = some old) (hf0 : w.frozen? t = false) :
    Calls Tryf.prog 23 #[.iface tN (.pointer (some e)), .iface tNN (.pointer (some t))] w fun ev w' => ev = .returned (.bool true) ∧ w' = ((((w.alloc (.cells #[.pointer (some t)] tNN)).alloc (.cells #[.pointer (some ⟨nG, tNN, none⟩), .pointer (some ⟨w.heap.size, 0, none⟩), .int .u64 150] tVal)).alloc (.cells #[.pointer (some ⟨nG, tNN, none⟩), .pointer (some ⟨w.heap.size, 0, none⟩), .int .u64 150] tVal)).alloc (.cells #[.pointer (some e)] tN)).setCell t (.pointer (some e)) := by
  have h6 := @run_callFunc_extern Tryf.prog 30 _ (fun args => ReflectliteValue.unpack (args.getD 0 (.tuple #[]))) Tryf.func30 (by kernel_rfl) (by kernel_rfl) (by kernel_rfl) (by kernel_rfl)
  have h7 := @run_callFunc_extern Tryf.prog 31 _ (ReflectliteValue.methodAny (ReflectliteValue.valueError "reflectlite.Value.Type" 0) (fun t _ _ _ => ReflectliteType.toType t)) Tryf.func31 (by kernel_rfl) (by kernel_rfl) (by kernel_rfl) (by kernel_rfl)
  have h8 := @run_callFunc_extern Tryf.prog 32 _ (ReflectliteValue.method (ReflectliteValue.valueError "reflectlite.Value.IsNil" 0) ReflectliteValue.isNil) Tryf.func32 (by kernel_rfl) (by kernel_rfl) (by kernel_rfl) (by kernel_rfl)
  have h27 := @run_callFunc_extern Tryf.prog 102 _ (ReflectliteType.abiMethod fun t => do pure (.int .u8 (← Rtype.kind t))) Tryf.func102 (by kernel_rfl) (by kernel_rfl) (by kernel_rfl) (by kernel_rfl)
  have h37 := @run_callFunc_extern Tryf.prog 115 _ (ReflectliteType.method ReflectliteType.elem) Tryf.func115 (by kernel_rfl) (by kernel_rfl) (by kernel_rfl) (by kernel_rfl)
  have h38 := @run_callFunc_extern Tryf.prog 116 _ (ReflectliteType.relation "Implements" ReflectliteType.implements_) Tryf.func116 (by kernel_rfl) (by kernel_rfl) (by kernel_rfl) (by kernel_rfl)
  have h10 := @run_callFunc_extern Tryf.prog 52 _ ReflectliteType.typeOf Tryf.func52 (by kernel_rfl) (by kernel_rfl) (by kernel_rfl) (by kernel_rfl)
  have h35 := @run_callFunc_extern Tryf.prog 113 _ (ReflectliteType.relation "AssignableTo" ReflectliteType.assignableTo) Tryf.func113 (by kernel_rfl) (by kernel_rfl) (by kernel_rfl) (by kernel_rfl)
  have h11 := @run_callFunc_extern Tryf.prog 53 _ (ReflectliteValue.method (ReflectliteValue.valueError "reflectlite.Value.Elem" 0) ReflectliteValue.elem) Tryf.func53 (by kernel_rfl) (by kernel_rfl) (by kernel_rfl) (by kernel_rfl)
  have h12 := @run_callFunc_extern Tryf.prog 54 _ ReflectliteValue.set Tryf.func54 (by kernel_rfl) (by kernel_rfl) (by kernel_rfl) (by kernel_rfl)
  have tO := as_typeOfN
  have mA := as_methodAssn
  have aN := as_assnN
  have vN := as_valueN
  have f6 := as_valueNN
  have f7 := as_typeNN
  have mK := as_methodKind
  have mE := as_methodElem
  have mI := as_methodImpl
  have kNN := as_kindNN
  have kN := as_kindN
  have eNN := as_elemNN
  have iN := as_implN
  have n8 := as_isNil ⟨w.heap.size, 0, none⟩ t ((w.alloc (.cells #[.pointer (some t)] tNN)).alloc (.cells #[.pointer (some ⟨nG, tNN, none⟩), .pointer (some ⟨w.heap.size, 0, none⟩), .int .u64 150] tVal)) (by simp)
  have hlt : gT < w.heap.size := World.block_lt_of_cell? _ _ hg
  have hg2 : ((w.alloc (.cells #[.pointer (some t)] tNN)).alloc (.cells #[.pointer (some ⟨nG, tNN, none⟩), .pointer (some ⟨w.heap.size, 0, none⟩), .int .u64 150] tVal)).cell? ⟨gT, 0, none⟩ = some hT0 := by
    rw [World.cell?_alloc_lt _ _ ⟨gT, 0, none⟩ (by simp; omega), World.cell?_alloc_lt _ _ ⟨gT, 0, none⟩ hlt]; exact hg
  have htl : t.block < w.heap.size := World.block_lt_of_cell? _ _ ht0
  have el := as_elemV ⟨w.heap.size, 0, none⟩ t (((w.alloc (.cells #[.pointer (some t)] tNN)).alloc (.cells #[.pointer (some ⟨nG, tNN, none⟩), .pointer (some ⟨w.heap.size, 0, none⟩), .int .u64 150] tVal)).alloc (.cells #[.pointer (some ⟨nG, tNN, none⟩), .pointer (some ⟨w.heap.size, 0, none⟩), .int .u64 150] tVal)) (by rw [World.cell?_alloc_lt _ _ ⟨w.heap.size, 0, none⟩ (by simp; omega)]; simp)
  have st := as_set t ⟨w.heap.size + 1 + 1 + 1, 0, none⟩ e old ((((w.alloc (.cells #[.pointer (some t)] tNN)).alloc (.cells #[.pointer (some ⟨nG, tNN, none⟩), .pointer (some ⟨w.heap.size, 0, none⟩), .int .u64 150] tVal)).alloc (.cells #[.pointer (some ⟨nG, tNN, none⟩), .pointer (some ⟨w.heap.size, 0, none⟩), .int .u64 150] tVal)).alloc (.cells #[.pointer (some e)] tN))
    (by rw [World.cell?_alloc_at _ _ _ _ (by simp)]; rfl)
    (by rw [World.cell?_alloc_lt _ _ t (by simp; omega), World.cell?_alloc_lt _ _ t (by simp; omega), World.cell?_alloc_lt _ _ t (by simp; omega), World.cell?_alloc_lt _ _ t htl]; exact ht0)
    (by rw [World.frozen?_alloc_old _ _ t (by simp; omega), World.frozen?_alloc_old _ _ t (by simp; omega), World.frozen?_alloc_old _ _ t (by simp; omega), World.frozen?_alloc_old _ _ t (Nat.ne_of_lt htl)]; exact hf0)
  go_enter Tryf.func23, Tryf.ntmps23
  go_wp2
  refine wp_loop_rounds 1 ?_
  rw [rounds_succ]
  go_wp2
  go_ret
  exact ⟨rfl, rfl⟩
end Go.Proofs.YtonifkkdokaooaaFmt
