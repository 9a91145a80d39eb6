/- Joined by pack.py: As, AsB. -/
import Derived.Test.YtpfgmiocdgfniaaGreatFmtP18
import Derived.RowKitTokens
set_option linter.unusedVariables false
set_option maxHeartbeats 8000000
set_option maxRecDepth 1000000
namespace Go.Proofs.YtpfgmiocdgfniaaGreatFmt
open Go.RowKit Go.Extern.Stop Go.Stop Go.Extern
abbrev tN : TypeId := 53
abbrev tNN : TypeId := 55
abbrev tRt : TypeId := 113
abbrev tVal : TypeId := 88
abbrev nG : Nat := 6
theorem as_valueNN (t : Addr) (w : World) : (ReflectliteValue.unpack (.iface tNN (.pointer (some t)))).run Tryz.prog w
    = .ok (.agg #[.pointer (some ⟨nG, tNN, none⟩), .pointer (some ⟨w.heap.size, 0, none⟩), .int .u64 150]) (w.alloc (.cells #[.pointer (some t)] tNN)) := by kernel_rfl
theorem as_typeNN (a : Addr) (w : World) : (ReflectliteValue.methodAny (ReflectliteValue.valueError "reflectlite.Value.Type" 0) (fun t _ _ _ => ReflectliteType.toType t) #[.agg #[.pointer (some ⟨nG, tNN, none⟩), .pointer (some a), .int .u64 150]]).run Tryz.prog w
    = .ok (.iface tRt (.agg #[.pointer (some ⟨nG, tNN, none⟩)])) w := by kernel_rfl
theorem as_kindNN (w : World) : ((ReflectliteType.abiMethod fun t => (fun a : Nat => Value.int IntKind.u8 (a : Int)) <$> Rtype.kind t) #[.pointer (some ⟨nG, tNN, none⟩)]).run Tryz.prog w = .ok (.int .u8 22) w := by kernel_rfl
theorem as_kindN (w : World) : ((ReflectliteType.abiMethod fun t => (fun a : Nat => Value.int IntKind.u8 (a : Int)) <$> Rtype.kind t) #[.pointer (some ⟨nG, tN, none⟩)]).run Tryz.prog w = .ok (.int .u8 22) w := by kernel_rfl
theorem as_methodKind (n : Nat) (h : Value) (w : World) : (Go.method (n + 20) tRt (.agg #[h]) "Kind").run Tryz.prog w = .ok (98, h) w := by kernel_rfl
theorem rlm (z : Sem Value) (f : TypeId → Addr → Nat → Nat → Sem Value) (v : Value) :
    ReflectliteValue.method z f #[v] = (do match ← ReflectliteValue.parts v with | none => z | some (t, a, fl) => f t a fl (fl % 32)) := rfl
theorem as_partsNN (a : Addr) (w : World) : (ReflectliteValue.parts (.agg #[.pointer (some ⟨nG, tNN, none⟩), .pointer (some a), .int .u64 150])).run Tryz.prog w = .ok (some (tNN, a, 150)) w := by kernel_rfl
theorem as_isNil (a p : Addr) (W : World) (ha : W.cell? a = some (.pointer (some p))) :
    (ReflectliteValue.method (ReflectliteValue.valueError "reflectlite.Value.IsNil" 0) ReflectliteValue.isNil #[.agg #[.pointer (some ⟨nG, tNN, none⟩), .pointer (some a), .int .u64 150]]).run Tryz.prog W = .ok (.bool false) W := by
  rw [rlm]
  simp only [Sem.run_bind, as_partsNN, Result.andThen]
  simp [ReflectliteValue.isNil, loadVar, isAgg, underlying, Tryz.underlying55, ha, Result.andThen]
theorem as_methodElem (n : Nat) (h : Value) (w : World) : (Go.method (n + 20) tRt (.agg #[h]) "Elem").run Tryz.prog w = .ok (111, .agg #[h]) w := by kernel_rfl
theorem as_methodImpl (n : Nat) (h : Value) (w : World) : (Go.method (n + 20) tRt (.agg #[h]) "Implements").run Tryz.prog w = .ok (112, .agg #[h]) w := by kernel_rfl
theorem as_methodAssn (n : Nat) (h : Value) (w : World) : (Go.method (n + 20) tRt (.agg #[h]) "AssignableTo").run Tryz.prog w = .ok (109, .agg #[h]) w := by kernel_rfl
theorem as_elemNN (w : World) : (ReflectliteType.method ReflectliteType.elem #[.agg #[.pointer (some ⟨nG, tNN, none⟩)]]).run Tryz.prog w = .ok (.iface tRt (.agg #[.pointer (some ⟨nG, tN, none⟩)])) w := by kernel_rfl
theorem as_implN (w : World) : (ReflectliteType.relation "Implements" ReflectliteType.implements_ #[.agg #[.pointer (some ⟨nG, tN, none⟩)], .iface tRt (.agg #[.pointer (some ⟨nG, 49, none⟩)])]).run Tryz.prog w = .ok (.bool true) w := by kernel_rfl
theorem as_typeOfN (v : Value) (w : World) : (ReflectliteType.typeOf #[.iface tN v]).run Tryz.prog w = .ok (.iface tRt (.agg #[.pointer (some ⟨nG, tN, none⟩)])) w := by kernel_rfl
theorem as_typeOfS (v : Value) (w : World) : (ReflectliteType.typeOf #[.iface 106 v]).run Tryz.prog w = .ok (.iface tRt (.agg #[.pointer (some ⟨nG, 106, none⟩)])) w := by kernel_rfl
theorem as_typeOfE (v : Value) (w : World) : (ReflectliteType.typeOf #[.iface 154 v]).run Tryz.prog w = .ok (.iface tRt (.agg #[.pointer (some ⟨nG, 154, none⟩)])) w := by kernel_rfl
theorem as_assnN (w : World) : (ReflectliteType.relation "AssignableTo" ReflectliteType.assignableTo #[.agg #[.pointer (some ⟨nG, tN, none⟩)], .iface tRt (.agg #[.pointer (some ⟨nG, tN, none⟩)])]).run Tryz.prog w = .ok (.bool true) w := by kernel_rfl
theorem as_assnS (w : World) : (ReflectliteType.relation "AssignableTo" ReflectliteType.assignableTo #[.agg #[.pointer (some ⟨nG, 106, none⟩)], .iface tRt (.agg #[.pointer (some ⟨nG, tN, none⟩)])]).run Tryz.prog w = .ok (.bool false) w := by kernel_rfl
theorem as_assnE (w : World) : (ReflectliteType.relation "AssignableTo" ReflectliteType.assignableTo #[.agg #[.pointer (some ⟨nG, 154, none⟩)], .iface tRt (.agg #[.pointer (some ⟨nG, tN, none⟩)])]).run Tryz.prog w = .ok (.bool false) w := by kernel_rfl
theorem as_valueN (e : Addr) (w : World) : (ReflectliteValue.unpack (.iface tN (.pointer (some e)))).run Tryz.prog w
    = .ok (.agg #[.pointer (some ⟨nG, tN, none⟩), .pointer (some ⟨w.heap.size, 0, none⟩), .int .u64 150]) (w.alloc (.cells #[.pointer (some e)] tN)) := by kernel_rfl
theorem as_elemOf (w : World) : (Rtype.elem? tNN).run Tryz.prog w = .ok (some tN) w := by kernel_rfl
theorem as_mkN (p : Addr) (w : World) : (ReflectliteValue.mk tN p ReflectliteValue.flagAddr).run Tryz.prog w = .ok (.agg #[.pointer (some ⟨nG, tN, none⟩), .pointer (some p), .int .u64 406]) w := by kernel_rfl
theorem as_elemV (a p : Addr) (W : World) (ha : W.cell? a = some (.pointer (some p))) :
    (ReflectliteValue.method (ReflectliteValue.valueError "reflectlite.Value.Elem" 0) ReflectliteValue.elem #[.agg #[.pointer (some ⟨nG, tNN, none⟩), .pointer (some a), .int .u64 150]]).run Tryz.prog W
      = .ok (.agg #[.pointer (some ⟨nG, tN, none⟩), .pointer (some p), .int .u64 406]) W := by
  rw [rlm]
  simp only [Sem.run_bind, as_partsNN, Result.andThen]
  simp [ReflectliteValue.elem, loadVar, isAgg, underlying, Tryz.underlying55, ha, Result.andThen, as_elemOf, as_mkN]
end Go.Proofs.YtpfgmiocdgfniaaGreatFmt

namespace Go.Proofs.YtpfgmiocdgfniaaGreatFmt
open Go.RowKit Go.Extern.Stop Go.Stop Go.Extern
theorem rls (v x : Value) : ReflectliteValue.set #[v, x] = (do
    let (some (dst, a, fl), some (src, b, _)) := (← ReflectliteValue.parts v, ← ReflectliteValue.parts x)
      | unsupported (.noEntry "extern/(internal/reflectlite.Value).Set.zeroValue")
    if fl / ReflectliteValue.flagAddr % 2 == 0 then unsupported (.noEntry "extern/(internal/reflectlite.Value).Set.unaddressable")
    let val ← loadVar src b
    if ← Rtype.directlyAssignable dst src then storeVar dst a val
    else if ← Rtype.implements dst src then
      if (← Rtype.kind src) == 20 then
        match val with
        | .nilIface => unsupported (.noEntry "extern/reflectlite: a nil value of one interface type handed on as a value of another")
        | _ => storeVar dst a val
      else storeVar dst a (.iface src val)
    else panicString ("reflectlite.Set: value of type " ++ (← Rtype.spelt src) ++ " is not assignable to type " ++ (← Rtype.spelt dst))
    pure (.tuple #[])) := rfl
theorem as_partsNa (a : Addr) (w : World) : (ReflectliteValue.parts (.agg #[.pointer (some ⟨nG, tN, none⟩), .pointer (some a), .int .u64 406])).run Tryz.prog w = .ok (some (tN, a, 406)) w := by kernel_rfl
theorem as_partsN (a : Addr) (w : World) : (ReflectliteValue.parts (.agg #[.pointer (some ⟨nG, tN, none⟩), .pointer (some a), .int .u64 150])).run Tryz.prog w = .ok (some (tN, a, 150)) w := by kernel_rfl
theorem as_direct (w : World) : (Rtype.directlyAssignable tN tN).run Tryz.prog w = .ok true w := by kernel_rfl
theorem as_set (ta b e : Addr) (old : Value) (W : World) (hb : W.cell? b = some (.pointer (some e))) (ht : W.cell? ta = some old) (hf : W.frozen? ta = false) :
    (ReflectliteValue.set #[.agg #[.pointer (some ⟨nG, tN, none⟩), .pointer (some ta), .int .u64 406], .agg #[.pointer (some ⟨nG, tN, none⟩), .pointer (some b), .int .u64 150]]).run Tryz.prog W
      = .ok (.tuple #[]) (W.setCell ta (.pointer (some e))) := by
  rw [rls]
  simp only [Sem.run_bind, as_partsNa, as_partsN, Result.andThen]
  simp [ReflectliteValue.flagAddr, loadVar, isAgg, underlying, Tryz.underlying53, hb, Result.andThen, as_direct, storeVar, Value.cells, storeCells, Addr.add]
  rw [run_store Tryz.prog W ta _ _ (by rfl)]
  simp [ht, hf]
abbrev gT : Nat := 2
abbrev hT0 : Value := .iface tRt (.agg #[.pointer (some ⟨nG, 49, none⟩)])
theorem as_hit (e t : Addr) (old : Value) (w : World) (hg : w.cell? ⟨gT, 0, none⟩ = some hT0) (ht0 : w.cell? t = some old) (hf0 : w.frozen? t = false) :
    Calls Tryz.prog 16 #[.iface tN (.pointer (some e)), .iface tNN (.pointer (some t))] w fun ev w' => ev = .returned (.bool true) ∧ w' = ((((w.alloc (.cells #[.pointer (some t)] tNN)).alloc (.cells #[.pointer (some ⟨nG, tNN, none⟩), .pointer (some ⟨w.heap.size, 0, none⟩), .int .u64 150] tVal)).alloc (.cells #[.pointer (some ⟨nG, tNN, none⟩), .pointer (some ⟨w.heap.size, 0, none⟩), .int .u64 150] tVal)).alloc (.cells #[.pointer (some e)] tN)).setCell t (.pointer (some e)) := by
  have h6 := @run_callFunc_extern Tryz.prog 25 _ (fun args => ReflectliteValue.unpack (args.getD 0 (.tuple #[]))) Tryz.func25 (by kernel_rfl) (by kernel_rfl) (by kernel_rfl) (by kernel_rfl)
  have h7 := @run_callFunc_extern Tryz.prog 26 _ (ReflectliteValue.methodAny (ReflectliteValue.valueError "reflectlite.Value.Type" 0) (fun t _ _ _ => ReflectliteType.toType t)) Tryz.func26 (by kernel_rfl) (by kernel_rfl) (by kernel_rfl) (by kernel_rfl)
  have h8 := @run_callFunc_extern Tryz.prog 27 _ (ReflectliteValue.method (ReflectliteValue.valueError "reflectlite.Value.IsNil" 0) ReflectliteValue.isNil) Tryz.func27 (by kernel_rfl) (by kernel_rfl) (by kernel_rfl) (by kernel_rfl)
  have h27 := @run_callFunc_extern Tryz.prog 98 _ (ReflectliteType.abiMethod fun t => do pure (.int .u8 (← Rtype.kind t))) Tryz.func98 (by kernel_rfl) (by kernel_rfl) (by kernel_rfl) (by kernel_rfl)
  have h37 := @run_callFunc_extern Tryz.prog 111 _ (ReflectliteType.method ReflectliteType.elem) Tryz.func111 (by kernel_rfl) (by kernel_rfl) (by kernel_rfl) (by kernel_rfl)
  have h38 := @run_callFunc_extern Tryz.prog 112 _ (ReflectliteType.relation "Implements" ReflectliteType.implements_) Tryz.func112 (by kernel_rfl) (by kernel_rfl) (by kernel_rfl) (by kernel_rfl)
  have h10 := @run_callFunc_extern Tryz.prog 48 _ ReflectliteType.typeOf Tryz.func48 (by kernel_rfl) (by kernel_rfl) (by kernel_rfl) (by kernel_rfl)
  have h35 := @run_callFunc_extern Tryz.prog 109 _ (ReflectliteType.relation "AssignableTo" ReflectliteType.assignableTo) Tryz.func109 (by kernel_rfl) (by kernel_rfl) (by kernel_rfl) (by kernel_rfl)
  have h11 := @run_callFunc_extern Tryz.prog 49 _ (ReflectliteValue.method (ReflectliteValue.valueError "reflectlite.Value.Elem" 0) ReflectliteValue.elem) Tryz.func49 (by kernel_rfl) (by kernel_rfl) (by kernel_rfl) (by kernel_rfl)
  have h12 := @run_callFunc_extern Tryz.prog 50 _ ReflectliteValue.set Tryz.func50 (by kernel_rfl) (by kernel_rfl) (by kernel_rfl) (by kernel_rfl)
  have tO := as_typeOfN
  have mA := as_methodAssn
  have aN := as_assnN
  have vN := as_valueN
  have f6 := as_valueNN
  have f7 := as_typeNN
  have mK := as_methodKind
  have mE := as_methodElem
  have mI := as_methodImpl
  have kNN := as_kindNN
  have kN := as_kindN
  have eNN := as_elemNN
  have iN := as_implN
  have n8 := as_isNil ⟨w.heap.size, 0, none⟩ t ((w.alloc (.cells #[.pointer (some t)] tNN)).alloc (.cells #[.pointer (some ⟨nG, tNN, none⟩), .pointer (some ⟨w.heap.size, 0, none⟩), .int .u64 150] tVal)) (by simp)
  have hlt : gT < w.heap.size := World.block_lt_of_cell? _ _ hg
  have hg2 : ((w.alloc (.cells #[.pointer (some t)] tNN)).alloc (.cells #[.pointer (some ⟨nG, tNN, none⟩), .pointer (some ⟨w.heap.size, 0, none⟩), .int .u64 150] tVal)).cell? ⟨gT, 0, none⟩ = some hT0 := by
    rw [World.cell?_alloc_lt _ _ ⟨gT, 0, none⟩ (by simp; omega), World.cell?_alloc_lt _ _ ⟨gT, 0, none⟩ hlt]; exact hg
  have htl : t.block < w.heap.size := World.block_lt_of_cell? _ _ ht0
  have el := as_elemV ⟨w.heap.size, 0, none⟩ t (((w.alloc (.cells #[.pointer (some t)] tNN)).alloc (.cells #[.pointer (some ⟨nG, tNN, none⟩), .pointer (some ⟨w.heap.size, 0, none⟩), .int .u64 150] tVal)).alloc (.cells #[.pointer (some ⟨nG, tNN, none⟩), .pointer (some ⟨w.heap.size, 0, none⟩), .int .u64 150] tVal)) (by rw [World.cell?_alloc_lt _ _ ⟨w.heap.size, 0, none⟩ (by simp; omega)]; simp)
  have st := as_set t ⟨w.heap.size + 1 + 1 + 1, 0, none⟩ e old ((((w.alloc (.cells #[.pointer (some t)] tNN)).alloc (.cells #[.pointer (some ⟨nG, tNN, none⟩), .pointer (some ⟨w.heap.size, 0, none⟩), .int .u64 150] tVal)).alloc (.cells #[.pointer (some ⟨nG, tNN, none⟩), .pointer (some ⟨w.heap.size, 0, none⟩), .int .u64 150] tVal)).alloc (.cells #[.pointer (some e)] tN))
    (by rw [World.cell?_alloc_at _ _ _ _ (by simp)]; rfl)
    (by rw [World.cell?_alloc_lt _ _ t (by simp; omega), World.cell?_alloc_lt _ _ t (by simp; omega), World.cell?_alloc_lt _ _ t (by simp; omega), World.cell?_alloc_lt _ _ t htl]; exact ht0)
    (by rw [World.frozen?_alloc_old _ _ t (by simp; omega), World.frozen?_alloc_old _ _ t (by simp; omega), World.frozen?_alloc_old _ _ t (by simp; omega), World.frozen?_alloc_old _ _ t (Nat.ne_of_lt htl)]; exact hf0)
  go_enter Tryz.func16, Tryz.ntmps16
  go_wp2
  refine wp_loop_rounds 1 ?_
  rw [rounds_succ]
  go_wp2
  go_ret
  exact ⟨rfl, rfl⟩
end Go.Proofs.YtpfgmiocdgfniaaGreatFmt
