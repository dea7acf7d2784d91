/- Lemmas towards the statement FnLexCardSaid, conditions: as each theorem says. -/
import Derived.Test.YtahcbeofaeflgaaGreatDoorE3
import Derived.LaidEql
import Derived.Stop.Asserts
import Derived.RowKitTokens
namespace Go.Proofs.YtahcbeofaeflgaaGreatDoor
open Go.RowKit Go.Extern.Stop Go.Stop Go.Extern

theorem rlm (z : Sem Value) (f : TypeId → Addr → Nat → Nat → Sem Value) (v : Value) :
    ReflectliteValue.method z f #[v] = (do match ← ReflectliteValue.parts v with | none => z | some (t, a, fl) => f t a fl (fl % 32)) := rfl
theorem Tryz.valueOf60 (t : Addr) (w : World) : (ReflectliteValue.unpack (.iface 60 (.pointer (some t)))).run Tryz.prog w
    = .ok (.agg #[.pointer (some ⟨12, 60, none⟩), .pointer (some ⟨w.heap.size, 0, none⟩), .int .u64 150]) (w.alloc (.cells #[.pointer (some t)] 60)) := by kernel_rfl
theorem Tryz.type60 (a : Addr) (w : World) : (ReflectliteValue.methodAny (ReflectliteValue.valueError "reflectlite.Value.Type" 0) (fun t _ _ _ => ReflectliteType.toType t) #[.agg #[.pointer (some ⟨12, 60, none⟩), .pointer (some a), .int .u64 150]]).run Tryz.prog w
    = .ok (.iface 108 (.agg #[.pointer (some ⟨12, 60, none⟩)])) w := by kernel_rfl
theorem Tryz.kind60 (w : World) : ((ReflectliteType.abiMethod fun t => (fun a : Nat => Value.int IntKind.u8 (a : Int)) <$> Rtype.kind t) #[.pointer (some ⟨12, 60, none⟩)]).run Tryz.prog w = .ok (.int .u8 22) w := by kernel_rfl
theorem Tryz.parts60 (a : Addr) (w : World) : (ReflectliteValue.parts (.agg #[.pointer (some ⟨12, 60, none⟩), .pointer (some a), .int .u64 150])).run Tryz.prog w = .ok (some (60, a, 150)) w := by kernel_rfl
theorem Tryz.isNil60 (a p : Addr) (W : World) (ha : W.cell? a = some (.pointer (some p))) :
    (ReflectliteValue.method (ReflectliteValue.valueError "reflectlite.Value.IsNil" 0) ReflectliteValue.isNil #[.agg #[.pointer (some ⟨12, 60, none⟩), .pointer (some a), .int .u64 150]]).run Tryz.prog W = .ok (.bool false) W := by
  rw [rlm]
  simp only [Sem.run_bind, Tryz.parts60, Result.andThen]
  simp [ReflectliteValue.isNil, loadVar, isAgg, underlying, Tryz.underlying60, ha, Result.andThen]
theorem Tryz.valueOf54 (t : Addr) (w : World) : (ReflectliteValue.unpack (.iface 54 (.pointer (some t)))).run Tryz.prog w
    = .ok (.agg #[.pointer (some ⟨12, 54, none⟩), .pointer (some ⟨w.heap.size, 0, none⟩), .int .u64 150]) (w.alloc (.cells #[.pointer (some t)] 54)) := by kernel_rfl
theorem Tryz.type54 (a : Addr) (w : World) : (ReflectliteValue.methodAny (ReflectliteValue.valueError "reflectlite.Value.Type" 0) (fun t _ _ _ => ReflectliteType.toType t) #[.agg #[.pointer (some ⟨12, 54, none⟩), .pointer (some a), .int .u64 150]]).run Tryz.prog w
    = .ok (.iface 108 (.agg #[.pointer (some ⟨12, 54, none⟩)])) w := by kernel_rfl
theorem Tryz.kind54 (w : World) : ((ReflectliteType.abiMethod fun t => (fun a : Nat => Value.int IntKind.u8 (a : Int)) <$> Rtype.kind t) #[.pointer (some ⟨12, 54, none⟩)]).run Tryz.prog w = .ok (.int .u8 22) w := by kernel_rfl
theorem Tryz.parts54 (a : Addr) (w : World) : (ReflectliteValue.parts (.agg #[.pointer (some ⟨12, 54, none⟩), .pointer (some a), .int .u64 150])).run Tryz.prog w = .ok (some (54, a, 150)) w := by kernel_rfl
theorem Tryz.isNil54 (a p : Addr) (W : World) (ha : W.cell? a = some (.pointer (some p))) :
    (ReflectliteValue.method (ReflectliteValue.valueError "reflectlite.Value.IsNil" 0) ReflectliteValue.isNil #[.agg #[.pointer (some ⟨12, 54, none⟩), .pointer (some a), .int .u64 150]]).run Tryz.prog W = .ok (.bool false) W := by
  rw [rlm]
  simp only [Sem.run_bind, Tryz.parts54, Result.andThen]
  simp [ReflectliteValue.isNil, loadVar, isAgg, underlying, Tryz.underlying54, ha, Result.andThen]
theorem Tryz.kind48 (w : World) : ((ReflectliteType.abiMethod fun t => (fun a : Nat => Value.int IntKind.u8 (a : Int)) <$> Rtype.kind t) #[.pointer (some ⟨12, 48, none⟩)]).run Tryz.prog w = .ok (.int .u8 22) w := by kernel_rfl
theorem Tryz.kind52 (w : World) : ((ReflectliteType.abiMethod fun t => (fun a : Nat => Value.int IntKind.u8 (a : Int)) <$> Rtype.kind t) #[.pointer (some ⟨12, 52, none⟩)]).run Tryz.prog w = .ok (.int .u8 23) w := by kernel_rfl
theorem Tryz.methodKind (h : Value) (w : World) : (Go.method 328 108 (.agg #[h]) "Kind").run Tryz.prog w = .ok (145, h) w := by kernel_rfl
theorem Tryz.methodElem (h : Value) (w : World) : (Go.method 328 108 (.agg #[h]) "Elem").run Tryz.prog w = .ok (160, .agg #[h]) w := by kernel_rfl
theorem Tryz.methodImplements (h : Value) (w : World) : (Go.method 328 108 (.agg #[h]) "Implements").run Tryz.prog w = .ok (161, .agg #[h]) w := by kernel_rfl
theorem Tryz.methodAssignableTo (h : Value) (w : World) : (Go.method 328 108 (.agg #[h]) "AssignableTo").run Tryz.prog w = .ok (158, .agg #[h]) w := by kernel_rfl
theorem Tryz.elem60 (w : World) : (ReflectliteType.method ReflectliteType.elem #[.agg #[.pointer (some ⟨12, 60, none⟩)]]).run Tryz.prog w = .ok (.iface 108 (.agg #[.pointer (some ⟨12, 48, none⟩)])) w := by kernel_rfl
theorem Tryz.elem54 (w : World) : (ReflectliteType.method ReflectliteType.elem #[.agg #[.pointer (some ⟨12, 54, none⟩)]]).run Tryz.prog w = .ok (.iface 108 (.agg #[.pointer (some ⟨12, 52, none⟩)])) w := by kernel_rfl
theorem Tryz.implements48 (w : World) : (ReflectliteType.relation "Implements" ReflectliteType.implements_ #[.agg #[.pointer (some ⟨12, 48, none⟩)], .iface 108 (.agg #[.pointer (some ⟨12, 41, none⟩)])]).run Tryz.prog w = .ok (.bool true) w := by kernel_rfl
theorem Tryz.implements52 (w : World) : (ReflectliteType.relation "Implements" ReflectliteType.implements_ #[.agg #[.pointer (some ⟨12, 52, none⟩)], .iface 108 (.agg #[.pointer (some ⟨12, 41, none⟩)])]).run Tryz.prog w = .ok (.bool true) w := by kernel_rfl
theorem Tryz.typeOf48 (v : Value) (w : World) : (ReflectliteType.typeOf #[.iface 48 v]).run Tryz.prog w = .ok (.iface 108 (.agg #[.pointer (some ⟨12, 48, none⟩)])) w := by kernel_rfl
theorem Tryz.assignable48 (w : World) : (ReflectliteType.relation "AssignableTo" ReflectliteType.assignableTo #[.agg #[.pointer (some ⟨12, 48, none⟩)], .iface 108 (.agg #[.pointer (some ⟨12, 48, none⟩)])]).run Tryz.prog w = .ok (.bool true) w := by kernel_rfl
theorem Tryz.assignable52 (w : World) : (ReflectliteType.relation "AssignableTo" ReflectliteType.assignableTo #[.agg #[.pointer (some ⟨12, 48, none⟩)], .iface 108 (.agg #[.pointer (some ⟨12, 52, none⟩)])]).run Tryz.prog w = .ok (.bool false) w := by kernel_rfl
theorem Tryz.valueOf48 (e : Addr) (w : World) : (ReflectliteValue.unpack (.iface 48 (.pointer (some e)))).run Tryz.prog w
    = .ok (.agg #[.pointer (some ⟨12, 48, none⟩), .pointer (some ⟨w.heap.size, 0, none⟩), .int .u64 150]) (w.alloc (.cells #[.pointer (some e)] 48)) := by kernel_rfl
theorem Tryz.elemOf60 (w : World) : (Rtype.elem? 60).run Tryz.prog w = .ok (some 48) w := by kernel_rfl
theorem Tryz.mk48 (p : Addr) (w : World) : (ReflectliteValue.mk 48 p ReflectliteValue.flagAddr).run Tryz.prog w = .ok (.agg #[.pointer (some ⟨12, 48, none⟩), .pointer (some p), .int .u64 406]) w := by kernel_rfl
theorem Tryz.elemV60 (a p : Addr) (W : World) (ha : W.cell? a = some (.pointer (some p))) :
    (ReflectliteValue.method (ReflectliteValue.valueError "reflectlite.Value.Elem" 0) ReflectliteValue.elem #[.agg #[.pointer (some ⟨12, 60, none⟩), .pointer (some a), .int .u64 150]]).run Tryz.prog W
      = .ok (.agg #[.pointer (some ⟨12, 48, none⟩), .pointer (some p), .int .u64 406]) W := by
  rw [rlm]
  simp only [Sem.run_bind, Tryz.parts60, Result.andThen]
  simp [ReflectliteValue.elem, loadVar, isAgg, underlying, Tryz.underlying60, ha, Result.andThen, Tryz.elemOf60, Tryz.mk48]
theorem rls (v x : Value) : ReflectliteValue.set #[v, x] = (do
    let (some (dst, a, fl), some (src, b, _)) := (← ReflectliteValue.parts v, ← ReflectliteValue.parts x)
      | unsupported (.noEntry "extern/(internal/reflectlite.Value).Set.zeroValue")
    if fl / ReflectliteValue.flagAddr % 2 == 0 then unsupported (.noEntry "extern/(internal/reflectlite.Value).Set.unaddressable")
    let val ← loadVar src b
    if ← Rtype.directlyAssignable dst src then storeVar dst a val
    else if ← Rtype.implements dst src then
      if (← Rtype.kind src) == 20 then
        match val with
        | .nilIface => unsupported (.noEntry "extern/reflectlite: a nil value of one interface type handed on as a value of another")
        | _ => storeVar dst a val
      else storeVar dst a (.iface src val)
    else panicString ("reflectlite.Set: value of type " ++ (← Rtype.spelt src) ++ " is not assignable to type " ++ (← Rtype.spelt dst))
    pure (.tuple #[])) := rfl
theorem Tryz.parts48a (a : Addr) (w : World) : (ReflectliteValue.parts (.agg #[.pointer (some ⟨12, 48, none⟩), .pointer (some a), .int .u64 406])).run Tryz.prog w = .ok (some (48, a, 406)) w := by kernel_rfl
theorem Tryz.parts48 (a : Addr) (w : World) : (ReflectliteValue.parts (.agg #[.pointer (some ⟨12, 48, none⟩), .pointer (some a), .int .u64 150])).run Tryz.prog w = .ok (some (48, a, 150)) w := by kernel_rfl
theorem Tryz.direct48 (w : World) : (Rtype.directlyAssignable 48 48).run Tryz.prog w = .ok true w := by kernel_rfl
theorem Tryz.set48 (ta b e : Addr) (old : Value) (W : World) (hb : W.cell? b = some (.pointer (some e))) (ht : W.cell? ta = some old) (hf : W.frozen? ta = false) :
    (ReflectliteValue.set #[.agg #[.pointer (some ⟨12, 48, none⟩), .pointer (some ta), .int .u64 406], .agg #[.pointer (some ⟨12, 48, none⟩), .pointer (some b), .int .u64 150]]).run Tryz.prog W
      = .ok (.tuple #[]) (W.setCell ta (.pointer (some e))) := by
  rw [rls]
  simp only [Sem.run_bind, Tryz.parts48a, Tryz.parts48, Result.andThen]
  simp [ReflectliteValue.flagAddr, loadVar, isAgg, underlying, Tryz.underlying48, hb, Result.andThen, Tryz.direct48, storeVar, Value.cells, storeCells, Addr.add]
  rw [run_store Tryz.prog W ta _ _ (by rfl)]
  simp [ht, hf]
theorem Tryz.noAs (v : Value) (w : World) : (Instr.typeAssert (.iface 48 v) 41 113 true).run Tryz.prog w = .ok (.tuple #[.nilIface, .bool false]) w := run_typeAssert_lacksB Tryz.underlying113 (by kernel_rfl) (by kernel_rfl) v 41 w
theorem Tryz.noUnwrap (v : Value) (w : World) : (Instr.typeAssert (.iface 48 v) 41 116 true).run Tryz.prog w = .ok (.tuple #[.nilIface, .bool false]) w := run_typeAssert_lacksB Tryz.underlying116 (by kernel_rfl) (by kernel_rfl) v 41 w
theorem Tryz.noUnwraps (v : Value) (w : World) : (Instr.typeAssert (.iface 48 v) 41 117 true).run Tryz.prog w = .ok (.tuple #[.nilIface, .bool false]) w := run_typeAssert_lacksB Tryz.underlying117 (by kernel_rfl) (by kernel_rfl) v 41 w
def errT : Value := .iface 108 (.agg #[.pointer (some ⟨12, 41, none⟩)])

set_option maxRecDepth 100000 in
set_option maxHeartbeats 4000000 in
theorem as_hit (e t : Addr) (old : Value) (w : World) (hg : w.cell? ⟨0, 0, none⟩ = some errT) (ht0 : w.cell? t = some old) (hf0 : w.frozen? t = false) :
    Calls Tryz.prog 13 #[.iface 48 (.pointer (some e)), .iface 60 (.pointer (some t))] w fun ev w' => ev = .returned (.bool true) ∧ w' = ((((w.alloc (.cells #[.pointer (some t)] 60)).alloc (.cells #[.pointer (some ⟨12, 60, none⟩), .pointer (some ⟨w.heap.size, 0, none⟩), .int .u64 150] 79)).alloc (.cells #[.pointer (some ⟨12, 60, none⟩), .pointer (some ⟨w.heap.size, 0, none⟩), .int .u64 150] 79)).alloc (.cells #[.pointer (some e)] 48)).setCell t (.pointer (some e)) := by
  unfold errT at hg
  have h32 := @run_callFunc_extern Tryz.prog 32 _ (fun args => ReflectliteValue.unpack (args.getD 0 (.tuple #[]))) Tryz.func32 (by kernel_rfl) (by kernel_rfl) (by kernel_rfl) (by kernel_rfl)
  have h33 := @run_callFunc_extern Tryz.prog 33 _ (ReflectliteValue.methodAny (ReflectliteValue.valueError "reflectlite.Value.Type" 0) (fun t _ _ _ => ReflectliteType.toType t)) Tryz.func33 (by kernel_rfl) (by kernel_rfl) (by kernel_rfl) (by kernel_rfl)
  have h34 := @run_callFunc_extern Tryz.prog 34 _ (ReflectliteValue.method (ReflectliteValue.valueError "reflectlite.Value.IsNil" 0) ReflectliteValue.isNil) Tryz.func34 (by kernel_rfl) (by kernel_rfl) (by kernel_rfl) (by kernel_rfl)
  have h145 := @run_callFunc_extern Tryz.prog 145 _ (ReflectliteType.abiMethod fun t => do pure (.int .u8 (← Rtype.kind t))) Tryz.func145 (by kernel_rfl) (by kernel_rfl) (by kernel_rfl) (by kernel_rfl)
  have h160 := @run_callFunc_extern Tryz.prog 160 _ (ReflectliteType.method ReflectliteType.elem) Tryz.func160 (by kernel_rfl) (by kernel_rfl) (by kernel_rfl) (by kernel_rfl)
  have h161 := @run_callFunc_extern Tryz.prog 161 _ (ReflectliteType.relation "Implements" ReflectliteType.implements_) Tryz.func161 (by kernel_rfl) (by kernel_rfl) (by kernel_rfl) (by kernel_rfl)
  have h62 := @run_callFunc_extern Tryz.prog 62 _ ReflectliteType.typeOf Tryz.func62 (by kernel_rfl) (by kernel_rfl) (by kernel_rfl) (by kernel_rfl)
  have h158 := @run_callFunc_extern Tryz.prog 158 _ (ReflectliteType.relation "AssignableTo" ReflectliteType.assignableTo) Tryz.func158 (by kernel_rfl) (by kernel_rfl) (by kernel_rfl) (by kernel_rfl)
  have h63 := @run_callFunc_extern Tryz.prog 63 _ (ReflectliteValue.method (ReflectliteValue.valueError "reflectlite.Value.Elem" 0) ReflectliteValue.elem) Tryz.func63 (by kernel_rfl) (by kernel_rfl) (by kernel_rfl) (by kernel_rfl)
  have h64 := @run_callFunc_extern Tryz.prog 64 _ ReflectliteValue.set Tryz.func64 (by kernel_rfl) (by kernel_rfl) (by kernel_rfl) (by kernel_rfl)
  have tO := Tryz.typeOf48
  have mA := Tryz.methodAssignableTo
  have a25 := Tryz.assignable48
  have v25 := Tryz.valueOf48
  have f6 := Tryz.valueOf60
  have f7 := Tryz.type60
  have mK := Tryz.methodKind
  have mE := Tryz.methodElem
  have mI := Tryz.methodImplements
  have k27 := Tryz.kind60
  have k25 := Tryz.kind48
  have e27 := Tryz.elem60
  have i25 := Tryz.implements48
  have n8 := Tryz.isNil60 ⟨w.heap.size, 0, none⟩ t ((w.alloc (.cells #[.pointer (some t)] 60)).alloc (.cells #[.pointer (some ⟨12, 60, none⟩), .pointer (some ⟨w.heap.size, 0, none⟩), .int .u64 150] 79)) (by simp)
  have hlt : 0 < w.heap.size := by
    rcases Nat.eq_zero_or_pos w.heap.size with h0 | h
    · simp [World.cell?, h0] at hg
    · exact h
  have hg2 : ((w.alloc (.cells #[.pointer (some t)] 60)).alloc (.cells #[.pointer (some ⟨12, 60, none⟩), .pointer (some ⟨w.heap.size, 0, none⟩), .int .u64 150] 79)).cell? ⟨0, 0, none⟩ = some (.iface 108 (.agg #[.pointer (some ⟨12, 41, none⟩)])) := by
    rw [World.cell?_alloc_lt _ _ ⟨0, 0, none⟩ (by simp), World.cell?_alloc_lt _ _ ⟨0, 0, none⟩ hlt]; exact hg
  have htl : t.block < w.heap.size := by
    rcases Nat.lt_or_ge t.block w.heap.size with h | h
    · exact h
    · simp [World.cell?, Array.getElem?_eq_none h] at ht0
  have el := Tryz.elemV60 ⟨w.heap.size, 0, none⟩ t (((w.alloc (.cells #[.pointer (some t)] 60)).alloc (.cells #[.pointer (some ⟨12, 60, none⟩), .pointer (some ⟨w.heap.size, 0, none⟩), .int .u64 150] 79)).alloc (.cells #[.pointer (some ⟨12, 60, none⟩), .pointer (some ⟨w.heap.size, 0, none⟩), .int .u64 150] 79)) (by rw [World.cell?_alloc_lt _ _ ⟨w.heap.size, 0, none⟩ (by simp; omega)]; simp)
  have st := Tryz.set48 t ⟨w.heap.size + 1 + 1 + 1, 0, none⟩ e old ((((w.alloc (.cells #[.pointer (some t)] 60)).alloc (.cells #[.pointer (some ⟨12, 60, none⟩), .pointer (some ⟨w.heap.size, 0, none⟩), .int .u64 150] 79)).alloc (.cells #[.pointer (some ⟨12, 60, none⟩), .pointer (some ⟨w.heap.size, 0, none⟩), .int .u64 150] 79)).alloc (.cells #[.pointer (some e)] 48))
    (by rw [World.cell?_alloc_at _ _ _ _ (by simp)]; rfl)
    (by rw [World.cell?_alloc_lt _ _ t (by simp; omega), World.cell?_alloc_lt _ _ t (by simp; omega), World.cell?_alloc_lt _ _ t (by simp; omega), World.cell?_alloc_lt _ _ t htl]; exact ht0)
    (by rw [World.frozen?_alloc_old _ _ t (by simp; omega), World.frozen?_alloc_old _ _ t (by simp; omega), World.frozen?_alloc_old _ _ t (by simp; omega), World.frozen?_alloc_old _ _ t (Nat.ne_of_lt htl)]; exact hf0)
  go_enter Tryz.func13, Tryz.ntmps13
  go_wp2
  refine wp_loop_rounds 1 ?_
  rw [rounds_succ]
  go_wp2
  go_ret
  exact ⟨rfl, rfl⟩

set_option maxRecDepth 100000 in
set_option maxHeartbeats 4000000 in
theorem as_miss (e t : Addr) (w : World) (hg : w.cell? ⟨0, 0, none⟩ = some errT) :
    Calls Tryz.prog 13 #[.iface 48 (.pointer (some e)), .iface 54 (.pointer (some t))] w fun ev w' => ev = .returned (.bool false) ∧ w' = ((w.alloc (.cells #[.pointer (some t)] 54)).alloc (.cells #[.pointer (some ⟨12, 54, none⟩), .pointer (some ⟨w.heap.size, 0, none⟩), .int .u64 150] 79)).alloc (.cells #[.pointer (some ⟨12, 54, none⟩), .pointer (some ⟨w.heap.size, 0, none⟩), .int .u64 150] 79) := by
  unfold errT at hg
  have h32 := @run_callFunc_extern Tryz.prog 32 _ (fun args => ReflectliteValue.unpack (args.getD 0 (.tuple #[]))) Tryz.func32 (by kernel_rfl) (by kernel_rfl) (by kernel_rfl) (by kernel_rfl)
  have h33 := @run_callFunc_extern Tryz.prog 33 _ (ReflectliteValue.methodAny (ReflectliteValue.valueError "reflectlite.Value.Type" 0) (fun t _ _ _ => ReflectliteType.toType t)) Tryz.func33 (by kernel_rfl) (by kernel_rfl) (by kernel_rfl) (by kernel_rfl)
  have h34 := @run_callFunc_extern Tryz.prog 34 _ (ReflectliteValue.method (ReflectliteValue.valueError "reflectlite.Value.IsNil" 0) ReflectliteValue.isNil) Tryz.func34 (by kernel_rfl) (by kernel_rfl) (by kernel_rfl) (by kernel_rfl)
  have h145 := @run_callFunc_extern Tryz.prog 145 _ (ReflectliteType.abiMethod fun t => do pure (.int .u8 (← Rtype.kind t))) Tryz.func145 (by kernel_rfl) (by kernel_rfl) (by kernel_rfl) (by kernel_rfl)
  have h160 := @run_callFunc_extern Tryz.prog 160 _ (ReflectliteType.method ReflectliteType.elem) Tryz.func160 (by kernel_rfl) (by kernel_rfl) (by kernel_rfl) (by kernel_rfl)
  have h161 := @run_callFunc_extern Tryz.prog 161 _ (ReflectliteType.relation "Implements" ReflectliteType.implements_) Tryz.func161 (by kernel_rfl) (by kernel_rfl) (by kernel_rfl) (by kernel_rfl)
  have h62 := @run_callFunc_extern Tryz.prog 62 _ ReflectliteType.typeOf Tryz.func62 (by kernel_rfl) (by kernel_rfl) (by kernel_rfl) (by kernel_rfl)
  have h158 := @run_callFunc_extern Tryz.prog 158 _ (ReflectliteType.relation "AssignableTo" ReflectliteType.assignableTo) Tryz.func158 (by kernel_rfl) (by kernel_rfl) (by kernel_rfl) (by kernel_rfl)
  have tO := Tryz.typeOf48
  have mA := Tryz.methodAssignableTo
  have a25 := Tryz.assignable52
  have f6 := Tryz.valueOf54
  have f7 := Tryz.type54
  have mK := Tryz.methodKind
  have mE := Tryz.methodElem
  have mI := Tryz.methodImplements
  have k27 := Tryz.kind54
  have k25 := Tryz.kind52
  have e27 := Tryz.elem54
  have i25 := Tryz.implements52
  have b1 := Tryz.noAs
  have b2 := Tryz.noUnwrap
  have b3 := Tryz.noUnwraps
  have n8 := Tryz.isNil54 ⟨w.heap.size, 0, none⟩ t ((w.alloc (.cells #[.pointer (some t)] 54)).alloc (.cells #[.pointer (some ⟨12, 54, none⟩), .pointer (some ⟨w.heap.size, 0, none⟩), .int .u64 150] 79)) (by simp)
  have hlt : 0 < w.heap.size := by
    rcases Nat.eq_zero_or_pos w.heap.size with h0 | h
    · simp [World.cell?, h0] at hg
    · exact h
  have hg2 : ((w.alloc (.cells #[.pointer (some t)] 54)).alloc (.cells #[.pointer (some ⟨12, 54, none⟩), .pointer (some ⟨w.heap.size, 0, none⟩), .int .u64 150] 79)).cell? ⟨0, 0, none⟩ = some (.iface 108 (.agg #[.pointer (some ⟨12, 41, none⟩)])) := by
    rw [World.cell?_alloc_lt _ _ ⟨0, 0, none⟩ (by simp), World.cell?_alloc_lt _ _ ⟨0, 0, none⟩ hlt]; exact hg
  go_enter Tryz.func13, Tryz.ntmps13
  go_wp2
  refine wp_loop_rounds 1 ?_
  rw [rounds_succ]
  go_wp2
  go_ret
  exact ⟨rfl, rfl⟩
end Go.Proofs.YtahcbeofaeflgaaGreatDoor
namespace Go.Proofs.YtahcbeofaeflgaaGreatDoor
open Go.RowKit

set_option maxRecDepth 100000 in
set_option maxHeartbeats 4000000 in
theorem placeOf8 (pe pp : Nat) (m : ByteArray) (cs : Array Value) (n : Int) (w : World) (hg : Hid (w.cell? ⟨0, 0, none⟩ = some errT)) (h1 : w.heap[pe]? = some (.cells #[.string m, .pointer (some ⟨pp, 0, none⟩)] 57 (0, 0))) (h2 : w.heap[pp]? = some (.cells cs 59 (0, 0))) (h3 : Hid (cs[1]? = some (.int .i64 n))) :
    Calls Tryz.prog 8 #[.iface 48 (.pointer (some ⟨pe, 0, none⟩))] w fun e w' => e = .returned (.int .i64 n) ∧ Below w.heap.size w w' := by
  have hpe := lt_of_heap h1
  have hpp := lt_of_heap h2
  have hz : 0 < w.heap.size := by
    rcases Nat.eq_zero_or_pos w.heap.size with h | h
    · have := hg.out
      simp [World.cell?, h] at this
    · exact h
  have HA : ∀ w', Below w.heap.size w w' → w'.cell? ⟨0, 0, none⟩ = some errT := fun w' hb => (hb.cell (p := ⟨0, 0, none⟩) hz).trans hg.out
  have HPE : ∀ w', Below w.heap.size w w' → w'.cell? ⟨pe, 1, none⟩ = some (.pointer (some ⟨pp, 0, none⟩)) := fun w' hb => (hb.cell (p := ⟨pe, 1, none⟩) hpe).trans (cell_of h1 1)
  have HPP : ∀ w', Below w.heap.size w w' → w'.cell? ⟨pp, 1, none⟩ = some (.int .i64 n) := fun w' hb => (hb.cell (p := ⟨pp, 1, none⟩) hpp).trans ((cell_of h2 1).trans h3.out)
  have hb0 : Below w.heap.size w (w.alloc (.cells #[.slice none 0 0] 52)) := (Below.refl _ w).alloc (Nat.le_refl _) _
  go_enter Tryz.func8, Tryz.ntmps8
  go_wp2_with fail
  refine (as_miss ⟨pe, 0, none⟩ ⟨w.heap.size, 0, none⟩ _ (HA _ hb0)).mono ?_
  rintro e w1 ⟨rfl, hw1⟩
  have hb1 : Below w.heap.size w w1 := by
    rw [hw1]
    exact (((hb0.alloc (by simp) _).alloc (by simp; omega) _).alloc (by simp; omega) _)
  clear hw1
  go_wp2_with fail
  have hb2 : Below w.heap.size w (w1.alloc (.cells #[.pointer none] 48)) := hb1.alloc hb1.size _
  have hc2 : (w1.alloc (.cells #[.pointer none] 48)).cell? ⟨w1.heap.size, 0, none⟩ = some (.pointer none) := cell_of (heap_alloc_new w1 (.cells #[.pointer none] 48)) 0
  have hf2 : (w1.alloc (.cells #[.pointer none] 48)).frozen? ⟨w1.heap.size, 0, none⟩ = false := frozen_of (heap_alloc_new w1 (.cells #[.pointer none] 48)) 0
  refine (as_hit ⟨pe, 0, none⟩ ⟨w1.heap.size, 0, none⟩ (.pointer none) _ (HA _ hb2) hc2 hf2).mono ?_
  rintro e w2 ⟨rfl, hw2⟩
  have hs1 := hb1.size
  have hb3 : Below w.heap.size w w2 := by
    rw [hw2]
    exact ((((hb2.alloc (by simp; omega) _).alloc (by simp; omega) _).alloc (by simp; omega) _).alloc (by simp; omega) _).setCell hs1 _
  have hc3 : w2.cell? ⟨w1.heap.size, 0, none⟩ = some (.pointer (some ⟨pe, 0, none⟩)) := by
    rw [hw2]
    refine World.cell?_setCell_same _ _ _ (u := .pointer none) ?_
    rw [World.cell?_alloc_lt _ _ _ (by simp; omega), World.cell?_alloc_lt _ _ _ (by simp; omega), World.cell?_alloc_lt _ _ _ (by simp; omega), World.cell?_alloc_lt _ _ _ (by simp)]
    exact hc2
  have e1 := HPE w2 hb3
  have e2 := HPP w2 hb3
  clear hw2
  go_wp2_with fail
  go_ret
  exact ⟨rfl, hb3⟩
end Go.Proofs.YtahcbeofaeflgaaGreatDoor
