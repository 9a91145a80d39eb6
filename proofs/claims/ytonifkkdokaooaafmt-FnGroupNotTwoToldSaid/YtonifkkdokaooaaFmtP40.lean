/- Joined by pack.py: As. -/
import Derived.Test.YtonifkkdokaooaaFmtP39
import Derived.RowKitTokens
/- Walk: errors.As at a target **pattern.NegExtGlobError, after the kit's worked example (Toyas). -/
namespace Go.Proofs.YtonifkkdokaooaaFmt
open Go.RowKit Go.Extern.Stop Go.Stop Go.Extern
set_option linter.unusedVariables false

abbrev tN : TypeId := 45
abbrev tNN : TypeId := 47
abbrev tRt : TypeId := 101
abbrev tVal : TypeId := 74
/-- how many package-level variables there are: the block of the types' handles -/
abbrev nG : Nat := 6
theorem as_valueNN (t : Addr) (w : World) : (ReflectliteValue.unpack (.iface tNN (.pointer (some t)))).run Tryf.prog w
    = .ok (.agg #[.pointer (some ⟨nG, tNN, none⟩), .pointer (some ⟨w.heap.size, 0, none⟩), .int .u64 150]) (w.alloc (.cells #[.pointer (some t)] tNN)) := by kernel_rfl
theorem as_typeNN (a : Addr) (w : World) : (ReflectliteValue.methodAny (ReflectliteValue.valueError "reflectlite.Value.Type" 0) (fun t _ _ _ => ReflectliteType.toType t) #[.agg #[.pointer (some ⟨nG, tNN, none⟩), .pointer (some a), .int .u64 150]]).run Tryf.prog w
    = .ok (.iface tRt (.agg #[.pointer (some ⟨nG, tNN, none⟩)])) w := by kernel_rfl
theorem as_kindNN (w : World) : ((ReflectliteType.abiMethod fun t => (fun a : Nat => Value.int IntKind.u8 (a : Int)) <$> Rtype.kind t) #[.pointer (some ⟨nG, tNN, none⟩)]).run Tryf.prog w = .ok (.int .u8 22) w := by kernel_rfl
theorem as_kindN (w : World) : ((ReflectliteType.abiMethod fun t => (fun a : Nat => Value.int IntKind.u8 (a : Int)) <$> Rtype.kind t) #[.pointer (some ⟨nG, tN, none⟩)]).run Tryf.prog w = .ok (.int .u8 22) w := by kernel_rfl
theorem as_methodKind (n : Nat) (h : Value) (w : World) : (Go.method (n + 20) tRt (.agg #[h]) "Kind").run Tryf.prog w = .ok (102, h) w := by kernel_rfl
theorem rlm (z : Sem Value) (f : TypeId → Addr → Nat → Nat → Sem Value) (v : Value) :
    ReflectliteValue.method z f #[v] = (do match ← ReflectliteValue.parts v with | none => z | some (t, a, fl) => f t a fl (fl % 32)) := rfl
theorem as_partsNN (a : Addr) (w : World) : (ReflectliteValue.parts (.agg #[.pointer (some ⟨nG, tNN, none⟩), .pointer (some a), .int .u64 150])).run Tryf.prog w = .ok (some (tNN, a, 150)) w := by kernel_rfl
theorem as_isNil (a p : Addr) (W : World) (ha : W.cell? a = some (.pointer (some p))) :
    (ReflectliteValue.method (ReflectliteValue.valueError "reflectlite.Value.IsNil" 0) ReflectliteValue.isNil #[.agg #[.pointer (some ⟨nG, tNN, none⟩), .pointer (some a), .int .u64 150]]).run Tryf.prog W = .ok (.bool false) W := by
  rw [rlm]
  simp only [Sem.run_bind, as_partsNN, Result.andThen]
  simp [ReflectliteValue.isNil, loadVar, isAgg, underlying, Tryf.underlying47, ha, Result.andThen]
theorem as_methodElem (n : Nat) (h : Value) (w : World) : (Go.method (n + 20) tRt (.agg #[h]) "Elem").run Tryf.prog w = .ok (115, .agg #[h]) w := by kernel_rfl
theorem as_methodImpl (n : Nat) (h : Value) (w : World) : (Go.method (n + 20) tRt (.agg #[h]) "Implements").run Tryf.prog w = .ok (116, .agg #[h]) w := by kernel_rfl
theorem as_methodAssn (n : Nat) (h : Value) (w : World) : (Go.method (n + 20) tRt (.agg #[h]) "AssignableTo").run Tryf.prog w = .ok (113, .agg #[h]) w := by kernel_rfl
theorem as_elemNN (w : World) : (ReflectliteType.method ReflectliteType.elem #[.agg #[.pointer (some ⟨nG, tNN, none⟩)]]).run Tryf.prog w = .ok (.iface tRt (.agg #[.pointer (some ⟨nG, tN, none⟩)])) w := by kernel_rfl
theorem as_implN (w : World) : (ReflectliteType.relation "Implements" ReflectliteType.implements_ #[.agg #[.pointer (some ⟨nG, tN, none⟩)], .iface tRt (.agg #[.pointer (some ⟨nG, 41, none⟩)])]).run Tryf.prog w = .ok (.bool true) w := by kernel_rfl
theorem as_typeOfN (v : Value) (w : World) : (ReflectliteType.typeOf #[.iface tN v]).run Tryf.prog w = .ok (.iface tRt (.agg #[.pointer (some ⟨nG, tN, none⟩)])) w := by kernel_rfl
theorem as_typeOfS (v : Value) (w : World) : (ReflectliteType.typeOf #[.iface 92 v]).run Tryf.prog w = .ok (.iface tRt (.agg #[.pointer (some ⟨nG, 92, none⟩)])) w := by kernel_rfl
theorem as_typeOfE (v : Value) (w : World) : (ReflectliteType.typeOf #[.iface 142 v]).run Tryf.prog w = .ok (.iface tRt (.agg #[.pointer (some ⟨nG, 142, none⟩)])) w := by kernel_rfl
theorem as_assnN (w : World) : (ReflectliteType.relation "AssignableTo" ReflectliteType.assignableTo #[.agg #[.pointer (some ⟨nG, tN, none⟩)], .iface tRt (.agg #[.pointer (some ⟨nG, tN, none⟩)])]).run Tryf.prog w = .ok (.bool true) w := by kernel_rfl
theorem as_assnS (w : World) : (ReflectliteType.relation "AssignableTo" ReflectliteType.assignableTo #[.agg #[.pointer (some ⟨nG, 92, none⟩)], .iface tRt (.agg #[.pointer (some ⟨nG, tN, none⟩)])]).run Tryf.prog w = .ok (.bool false) w := by kernel_rfl
theorem as_assnE (w : World) : (ReflectliteType.relation "AssignableTo" ReflectliteType.assignableTo #[.agg #[.pointer (some ⟨nG, 142, none⟩)], .iface tRt (.agg #[.pointer (some ⟨nG, tN, none⟩)])]).run Tryf.prog w = .ok (.bool false) w := by kernel_rfl
theorem as_valueN (e : Addr) (w : World) : (ReflectliteValue.unpack (.iface tN (.pointer (some e)))).run Tryf.prog w
    = .ok (.agg #[.pointer (some ⟨nG, tN, none⟩), .pointer (some ⟨w.heap.size, 0, none⟩), .int .u64 150]) (w.alloc (.cells #[.pointer (some e)] tN)) := by kernel_rfl
theorem as_elemOf (w : World) : (Rtype.elem? tNN).run Tryf.prog w = .ok (some tN) w := by kernel_rfl
theorem as_mkN (p : Addr) (w : World) : (ReflectliteValue.mk tN p ReflectliteValue.flagAddr).run Tryf.prog w = .ok (.agg #[.pointer (some ⟨nG, tN, none⟩), .pointer (some p), .int .u64 406]) w := by kernel_rfl
theorem as_elemV (a p : Addr) (W : World) (ha : W.cell? a = some (.pointer (some p))) :
    (ReflectliteValue.method (ReflectliteValue.valueError "reflectlite.Value.Elem" 0) ReflectliteValue.elem #[.agg #[.pointer (some ⟨nG, tNN, none⟩), .pointer (some a), .int .u64 150]]).run Tryf.prog W
      = .ok (.agg #[.pointer (some ⟨nG, tN, none⟩), .pointer (some p), .int .u64 406]) W := by
  rw [rlm]
  simp only [Sem.run_bind, as_partsNN, Result.andThen]
  simp [ReflectliteValue.elem, loadVar, isAgg, underlying, Tryf.underlying47, ha, Result.andThen, as_elemOf, as_mkN]
end Go.Proofs.YtonifkkdokaooaaFmt
