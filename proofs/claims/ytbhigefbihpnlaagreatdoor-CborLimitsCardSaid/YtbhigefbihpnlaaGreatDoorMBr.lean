/- errors.As at the target *cbor.fault, by the model's entries for internal/reflectlite (after the worked example of a concrete target). -/
import Derived.Test.YtbhigefbihpnlaaGreatDoorMBc
import Derived.Laws.Tables
import Derived.LaidEql
import Derived.Stop.Asserts
set_option linter.unusedVariables false
set_option linter.unusedSimpArgs false
set_option linter.defProp false
set_option linter.constructorNameAsVariable false
namespace Go.Proofs.YtbhigefbihpnlaaGreatDoor
open Go.RowKit Go.Extern.Stop Go.Stop Go.Extern
abbrev hT (t : TypeId) : Value := .pointer (some ⟨11, t, none⟩)
theorem as_nil (t : Value) (w : World) : Calls Tryz.prog 10 #[.nilIface, t] w fun e w' => e = .returned (.bool false) ∧ w' = w := by
 go_enter Tryz.func10, Tryz.ntmps10
 go_wp2
 go_ret
 exact ⟨rfl, rfl⟩
theorem asV1 (t : Addr) (w : World) : (ReflectliteValue.unpack (.iface 53 (.pointer (some t)))).run Tryz.prog w
  = .ok (.agg #[hT 53, .pointer (some ⟨w.heap.size, 0, none⟩), .int .u64 150]) (w.alloc (.cells #[.pointer (some t)] 53)) := by kernel_rfl
theorem asType (a : Addr) (w : World) : (ReflectliteValue.methodAny (ReflectliteValue.valueError "reflectlite.Value.Type" 0) (fun t _ _ _ => ReflectliteType.toType t) #[.agg #[hT 53, .pointer (some a), .int .u64 150]]).run Tryz.prog w
  = .ok (.iface 98 (.agg #[hT 53])) w := by kernel_rfl
theorem asMK (h : Value) (w : World) : (Go.method 448 98 (.agg #[h]) "Kind").run Tryz.prog w = .ok (249, h) w := by kernel_rfl
theorem asK1 (w : World) : ((ReflectliteType.abiMethod fun t => (fun a : Nat => Value.int IntKind.u8 (a : Int)) <$> Rtype.kind t) #[hT 53]).run Tryz.prog w = .ok (.int .u8 22) w := by kernel_rfl
theorem asK2 (w : World) : ((ReflectliteType.abiMethod fun t => (fun a : Nat => Value.int IntKind.u8 (a : Int)) <$> Rtype.kind t) #[hT 48]).run Tryz.prog w = .ok (.int .u8 25) w := by kernel_rfl
theorem asRlm (z : Sem Value) (f : TypeId → Addr → Nat → Nat → Sem Value) (v : Value) :
  ReflectliteValue.method z f #[v] = (do match ← ReflectliteValue.parts v with | none => z | some (t, a, fl) => f t a fl (fl % 32)) := rfl
theorem asP1 (a : Addr) (w : World) : (ReflectliteValue.parts (.agg #[hT 53, .pointer (some a), .int .u64 150])).run Tryz.prog w = .ok (some (53, a, 150)) w := by kernel_rfl
theorem asNil (a p : Addr) (W : World) (ha : W.cell? a = some (.pointer (some p))) :
  (ReflectliteValue.method (ReflectliteValue.valueError "reflectlite.Value.IsNil" 0) ReflectliteValue.isNil #[.agg #[hT 53, .pointer (some a), .int .u64 150]]).run Tryz.prog W = .ok (.bool false) W := by
 rw [asRlm]
 simp only [Sem.run_bind, asP1, Result.andThen]
 simp [ReflectliteValue.isNil, loadVar, isAgg, underlying, Tryz.underlying53, ha, Result.andThen]
theorem asME (h : Value) (w : World) : (Go.method 448 98 (.agg #[h]) "Elem").run Tryz.prog w = .ok (259, .agg #[h]) w := by kernel_rfl
theorem asMI (h : Value) (w : World) : (Go.method 448 98 (.agg #[h]) "Implements").run Tryz.prog w = .ok (260, .agg #[h]) w := by kernel_rfl
theorem asMA (h : Value) (w : World) : (Go.method 448 98 (.agg #[h]) "AssignableTo").run Tryz.prog w = .ok (257, .agg #[h]) w := by kernel_rfl
theorem asE1 (w : World) : (ReflectliteType.method ReflectliteType.elem #[.agg #[hT 53]]).run Tryz.prog w = .ok (.iface 98 (.agg #[hT 48])) w := by kernel_rfl
theorem asI2 (w : World) : (ReflectliteType.relation "Implements" ReflectliteType.implements_ #[.agg #[hT 48], .iface 98 (.agg #[hT 51])]).run Tryz.prog w = .ok (.bool true) w := by kernel_rfl
theorem asT2 (v : Value) (w : World) : (ReflectliteType.typeOf #[.iface 48 v]).run Tryz.prog w = .ok (.iface 98 (.agg #[hT 48])) w := by kernel_rfl
theorem asA2 (w : World) : (ReflectliteType.relation "AssignableTo" ReflectliteType.assignableTo #[.agg #[hT 48], .iface 98 (.agg #[hT 48])]).run Tryz.prog w = .ok (.bool true) w := by kernel_rfl
theorem asV2 (x y : Value) (w : World) : (ReflectliteValue.unpack (.iface 48 (.agg #[x, y]))).run Tryz.prog w
  = .ok (.agg #[hT 48, .pointer (some ⟨w.heap.size, 0, none⟩), .int .u64 153]) (w.alloc (.cells #[x, y] 48)) := by kernel_rfl
theorem asEl (w : World) : (Rtype.elem? 53).run Tryz.prog w = .ok (some 48) w := by kernel_rfl
theorem asMk (p : Addr) (w : World) : (ReflectliteValue.mk 48 p ReflectliteValue.flagAddr).run Tryz.prog w = .ok (.agg #[hT 48, .pointer (some p), .int .u64 409]) w := by kernel_rfl
theorem asElem (a p : Addr) (W : World) (ha : W.cell? a = some (.pointer (some p))) :
  (ReflectliteValue.method (ReflectliteValue.valueError "reflectlite.Value.Elem" 0) ReflectliteValue.elem #[.agg #[hT 53, .pointer (some a), .int .u64 150]]).run Tryz.prog W
   = .ok (.agg #[hT 48, .pointer (some p), .int .u64 409]) W := by
 rw [asRlm]
 simp only [Sem.run_bind, asP1, Result.andThen]
 simp [ReflectliteValue.elem, loadVar, isAgg, underlying, Tryz.underlying53, ha, Result.andThen, asEl, asMk]
theorem asRls (v x : Value) : ReflectliteValue.set #[v, x] = (do
  let (some (dst, a, fl), some (src, b, _)) := (← ReflectliteValue.parts v, ← ReflectliteValue.parts x)
   | unsupported (.noEntry "extern/(internal/reflectlite.Value).Set.zeroValue")
  if fl / ReflectliteValue.flagAddr % 2 == 0 then unsupported (.noEntry "extern/(internal/reflectlite.Value).Set.unaddressable")
  let val ← loadVar src b
  if ← Rtype.directlyAssignable dst src then storeVar dst a val
  else if ← Rtype.implements dst src then
   if (← Rtype.kind src) == 20 then
    match val with
    | .nilIface => unsupported (.noEntry "extern/reflectlite: a nil value of one interface type handed on as a value of another")
    | _ => storeVar dst a val
   else storeVar dst a (.iface src val)
  else panicString ("reflectlite.Set: value of type " ++ (← Rtype.spelt src) ++ " is not assignable to type " ++ (← Rtype.spelt dst))
  pure (.tuple #[])) := rfl
theorem asP2a (a : Addr) (w : World) : (ReflectliteValue.parts (.agg #[hT 48, .pointer (some a), .int .u64 409])).run Tryz.prog w = .ok (some (48, a, 409)) w := by kernel_rfl
theorem asP2 (a : Addr) (w : World) : (ReflectliteValue.parts (.agg #[hT 48, .pointer (some a), .int .u64 153])).run Tryz.prog w = .ok (some (48, a, 153)) w := by kernel_rfl
theorem asDir (w : World) : (Rtype.directlyAssignable 48 48).run Tryz.prog w = .ok true w := by kernel_rfl
theorem hsz_fault : (Tryz.prog.info? 48).map (·.size) = some 2 := by kernel_rfl
theorem asSet (ta b : Nat) (u v : Int) (o1 o2 : Value) (W : World) (hb : W.heap[b]? = some (.cells #[.int .i64 u, .int .i64 v] 48 (0, 0))) (ht : W.heap[ta]? = some (.cells #[o1, o2] 48 (0, 0))) :
  (ReflectliteValue.set #[.agg #[hT 48, .pointer (some ⟨ta, 0, none⟩), .int .u64 409], .agg #[hT 48, .pointer (some ⟨b, 0, none⟩), .int .u64 153]]).run Tryz.prog W
   = .ok (.tuple #[]) (W.setRow ta #[.int .i64 u, .int .i64 v]) := by
 rw [asRls]
 simp only [Sem.run_bind, asP2a, asP2, Result.andThen]
 have h1 := run_loadVar_row (P := Tryz.prog) W b 48 48 #[.int .i64 u, .int .i64 v] (0, 0) _ hb Tryz.underlying48 rfl hsz_fault
 have h2 := run_storeVar_row (P := Tryz.prog) W ta 48 48 #[o1, o2] #[.int .i64 u, .int .i64 v] ht hsz_fault rfl (by simp [Value.oneCell'])
 simp [ReflectliteValue.flagAddr, h1, h2, Result.andThen, asDir]
set_option maxHeartbeats 8000000 in
theorem as_hit (ta : Nat) (u v : Int) (o1 o2 : Value) (w : World) (hg : w.cell? ⟨0, 0, none⟩ = some (.iface 98 (.agg #[hT 51]))) (ht0 : Arr w ta 48 [o1, o2]) :
  Calls Tryz.prog 10 #[.iface 48 (.agg #[.int .i64 u, .int .i64 v]), .iface 53 (.pointer (some ⟨ta, 0, none⟩))] w fun ev w' => ev = .returned (.bool true) ∧ Arr w' ta 48 [.int .i64 u, .int .i64 v] ∧ (∀ k, k < w.heap.size → k ≠ ta → w'.heap[k]? = w.heap[k]?) ∧ w.heap.size ≤ w'.heap.size ∧ w'.os = w.os ∧ w'.tape = w.tape ∧ w'.output = w.output := by
 have h6 := @run_callFunc_extern Tryz.prog 17 _ (fun args => ReflectliteValue.unpack (args.getD 0 (.tuple #[]))) Tryz.func17 (by kernel_rfl) (by kernel_rfl) (by kernel_rfl) (by kernel_rfl)
 have h7 := @run_callFunc_extern Tryz.prog 18 _ (ReflectliteValue.methodAny (ReflectliteValue.valueError "reflectlite.Value.Type" 0) (fun t _ _ _ => ReflectliteType.toType t)) Tryz.func18 (by kernel_rfl) (by kernel_rfl) (by kernel_rfl) (by kernel_rfl)
 have h8 := @run_callFunc_extern Tryz.prog 19 _ (ReflectliteValue.method (ReflectliteValue.valueError "reflectlite.Value.IsNil" 0) ReflectliteValue.isNil) Tryz.func19 (by kernel_rfl) (by kernel_rfl) (by kernel_rfl) (by kernel_rfl)
 have h27 := @run_callFunc_extern Tryz.prog 249 _ (ReflectliteType.abiMethod fun t => do pure (.int .u8 (← Rtype.kind t))) Tryz.func249 (by kernel_rfl) (by kernel_rfl) (by kernel_rfl) (by kernel_rfl)
 have h37 := @run_callFunc_extern Tryz.prog 259 _ (ReflectliteType.method ReflectliteType.elem) Tryz.func259 (by kernel_rfl) (by kernel_rfl) (by kernel_rfl) (by kernel_rfl)
 have h38 := @run_callFunc_extern Tryz.prog 260 _ (ReflectliteType.relation "Implements" ReflectliteType.implements_) Tryz.func260 (by kernel_rfl) (by kernel_rfl) (by kernel_rfl) (by kernel_rfl)
 have h10 := @run_callFunc_extern Tryz.prog 35 _ ReflectliteType.typeOf Tryz.func35 (by kernel_rfl) (by kernel_rfl) (by kernel_rfl) (by kernel_rfl)
 have h35 := @run_callFunc_extern Tryz.prog 257 _ (ReflectliteType.relation "AssignableTo" ReflectliteType.assignableTo) Tryz.func257 (by kernel_rfl) (by kernel_rfl) (by kernel_rfl) (by kernel_rfl)
 have h11 := @run_callFunc_extern Tryz.prog 36 _ (ReflectliteValue.method (ReflectliteValue.valueError "reflectlite.Value.Elem" 0) ReflectliteValue.elem) Tryz.func36 (by kernel_rfl) (by kernel_rfl) (by kernel_rfl) (by kernel_rfl)
 have h12 := @run_callFunc_extern Tryz.prog 37 _ ReflectliteValue.set Tryz.func37 (by kernel_rfl) (by kernel_rfl) (by kernel_rfl) (by kernel_rfl)
 have tO := asT2
 have mA := asMA
 have a25 := asA2
 have v25 := asV2
 have f6 := asV1
 have f7 := asType
 have mK := asMK
 have mE := asME
 have mI := asMI
 have k27 := asK1
 have k25 := asK2
 have e27 := asE1
 have i25 := asI2
 obtain ⟨w1, hw1⟩ : ∃ x, w.alloc (.cells #[.pointer (some ⟨ta, 0, none⟩)] 53) = x := ⟨_, rfl⟩
 have hlt : 0 < w.heap.size := by
  rcases Nat.lt_or_ge 0 w.heap.size with h | h
  ·exact h
  ·simp [World.cell?, Array.getElem?_eq_none h] at hg
 have htl := ht0.lt
 have n8 := asNil ⟨w.heap.size, 0, none⟩ ⟨ta, 0, none⟩ ((w.alloc (.cells #[.pointer (some ⟨ta, 0, none⟩)] 53)).alloc (.cells #[hT 53, .pointer (some ⟨w.heap.size, 0, none⟩), .int .u64 150] 66)) (by simp)
 have hg2 : ((w.alloc (.cells #[.pointer (some ⟨ta, 0, none⟩)] 53)).alloc (.cells #[hT 53, .pointer (some ⟨w.heap.size, 0, none⟩), .int .u64 150] 66)).cell? ⟨0, 0, none⟩ = some (.iface 98 (.agg #[hT 51])) := by
  rw [World.cell?_alloc_lt _ _ ⟨0, 0, none⟩ (by first | (simp; done) | (simp; omega)), World.cell?_alloc_lt _ _ ⟨0, 0, none⟩ hlt]; exact hg
 have el := asElem ⟨w.heap.size, 0, none⟩ ⟨ta, 0, none⟩ (((w.alloc (.cells #[.pointer (some ⟨ta, 0, none⟩)] 53)).alloc (.cells #[hT 53, .pointer (some ⟨w.heap.size, 0, none⟩), .int .u64 150] 66)).alloc (.cells #[hT 53, .pointer (some ⟨w.heap.size, 0, none⟩), .int .u64 150] 66)) (by rw [World.cell?_alloc_lt _ _ ⟨w.heap.size, 0, none⟩ (by simp; omega)]; simp)
 have hA := (((ht0.alloc (.cells #[.pointer (some ⟨ta, 0, none⟩)] 53)).alloc (.cells #[hT 53, .pointer (some ⟨w.heap.size, 0, none⟩), .int .u64 150] 66)).alloc (.cells #[hT 53, .pointer (some ⟨w.heap.size, 0, none⟩), .int .u64 150] 66)).alloc (.cells #[.int .i64 u, .int .i64 v] 48)
 have hB := Arr.new (((w.alloc (.cells #[.pointer (some ⟨ta, 0, none⟩)] 53)).alloc (.cells #[hT 53, .pointer (some ⟨w.heap.size, 0, none⟩), .int .u64 150] 66)).alloc (.cells #[hT 53, .pointer (some ⟨w.heap.size, 0, none⟩), .int .u64 150] 66)) 48 [.int .i64 u, .int .i64 v]
 have hbs : (((w.alloc (.cells #[.pointer (some ⟨ta, 0, none⟩)] 53)).alloc (.cells #[hT 53, .pointer (some ⟨w.heap.size, 0, none⟩), .int .u64 150] 66)).alloc (.cells #[hT 53, .pointer (some ⟨w.heap.size, 0, none⟩), .int .u64 150] 66)).heap.size = w.heap.size + 1 + 1 + 1 := by simp
 rw [hbs] at hB
 have st := asSet ta (w.heap.size + 1 + 1 + 1) u v o1 o2 _ hB hA
 have HB1 := Lib.hid ((((Below.refl w.heap.size w).alloc (Nat.le_refl _) (.cells #[.pointer (some ⟨ta, 0, none⟩)] 53)).alloc (by simp) (.cells #[hT 53, .pointer (some ⟨w.heap.size, 0, none⟩), .int .u64 150] 66)).alloc (by simp; omega) (.cells #[hT 53, .pointer (some ⟨w.heap.size, 0, none⟩), .int .u64 150] 66))
 have HA := Lib.hid hA
 clear hA hB hbs hw1
 go_enter Tryz.func10, Tryz.ntmps10
 go_wp2
 refine wp_loop_rounds 1 ?_
 rw [rounds_succ]
 go_wp2
 go_ret
 have hb2 := HB1.out.alloc (by have := HB1.out.size; omega) (.cells #[.int .i64 u, .int .i64 v] 48)
 refine ⟨rfl, setRow_heap _ ta _ _ _ _ HA.out, fun k hk hne => (setRow_other _ ta k _ hne).trans (hb2.block k hk), ?_, hb2.os, hb2.tape, hb2.output⟩
 have := hb2.size
 simpa using this
end Go.Proofs.YtbhigefbihpnlaaGreatDoor
